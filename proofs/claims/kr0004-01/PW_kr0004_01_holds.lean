import PyProof.Rows.All
import Wide.All
import OpenK.AllK
import Wide.FinOn
import PySem.Challenge.RW_kr0004_01

open PySem PySem.W PyProof.Rows
set_option Elab.async false
set_option linter.unusedVariables false
set_option linter.unusedSimpArgs false
set_option linter.deprecated false

namespace Mine

/-! ## abstract values, objects, states -/
inductive PV where
  | none
  | bool (b : Bool)
  | int (i : Int)
  | str (s : Str)
  | ref (a : Addr)
  | val (v : Value)

inductive VR : PV → Value → Prop where
  | none : VR .none .none
  | bool (b : Bool) : VR (.bool b) (.bool b)
  | int (i : Int) (t : Tok) : VR (.int i) (.int i t)
  | str (s : Str) (t : Tok) : VR (.str s) (.str s t)
  | ref (a : Addr) : VR (.ref a) (.ref a)
  | val (v : Value) : VR (.val v) v

inductive VRs : List PV → List Value → Prop where
  | nil : VRs [] []
  | cons {p v ps vs} : VR p v → VRs ps vs → VRs (p :: ps) (v :: vs)

theorem VRs.length {ps vs} (h : VRs ps vs) : vs.length = ps.length := by
  induction h with
  | nil => rfl
  | cons _ _ ih => simp [ih]

theorem VRs.get {ps vs} (h : VRs ps vs) : ∀ i : Nat, ∀ p, ps[i]? = some p → ∃ v, vs[i]? = some v ∧ VR p v := by
  induction h with
  | nil => intro i p hp; simp at hp
  | cons hv _ ih =>
    intro i p hp
    cases i with
    | zero => simp at hp; subst hp; exact ⟨_, by simp, hv⟩
    | succ i => simpa using ih i p (by simpa using hp)

theorem VRs.append {ps vs ps' vs'} (h : VRs ps vs) (h' : VRs ps' vs') : VRs (ps ++ ps') (vs ++ vs') := by
  induction h with
  | nil => exact h'
  | cons hv _ ih => exact .cons hv ih

theorem VRs.snoc {ps vs p v} (h : VRs ps vs) (h' : VR p v) : VRs (ps ++ [p]) (vs ++ [v]) := h.append (.cons h' .nil)

theorem VRs.take {ps vs} (h : VRs ps vs) : ∀ n, VRs (ps.take n) (vs.take n) := by
  induction h with
  | nil => intro n; simp; exact .nil
  | cons hv _ ih =>
    intro n
    cases n with
    | zero => exact .nil
    | succ n => exact .cons hv (ih n)

theorem VRs.drop {ps vs} (h : VRs ps vs) : ∀ n, VRs (ps.drop n) (vs.drop n) := by
  induction h with
  | nil => intro n; simp; exact .nil
  | cons hv ht ih =>
    intro n
    cases n with
    | zero => exact .cons hv ht
    | succ n => exact ih n

theorem VRs.set {ps vs} (h : VRs ps vs) {p v} (hv : VR p v) : ∀ n, VRs (ps.set n p) (vs.set n v) := by
  induction h with
  | nil => intro n; simp; exact .nil
  | cons hv' ht ih =>
    intro n
    cases n with
    | zero => exact .cons hv ht
    | succ n => exact .cons hv' (ih n)

inductive PO where
  | list (vs : List PV)
  | set (S : Int → Bool)
  | wset (S : Int → Bool)
  | range (lo hi : Int)
  | exc (t : Addr)
  | tup (vs : List PV)
  | ns (m : Str → Option Value)

def setO (es : Array (Int × Value)) (ep : Nat) (t : SetTable) : Obj := { cls := .type "set", data := .set es ep t }

/-- the elements of a set of small ints -/
structure Elems (S : Int → Bool) (es : Array (Int × Value)) : Prop where
  each : ∀ e ∈ es.toList, ∃ (k : Nat) (tok : Tok), k < 12 ∧ e = ((k : Int), .int k tok)
  nodup : (es.toList.map (·.1)).Nodup
  mem : ∀ k, S k = true ↔ k ∈ es.toList.map (·.1)

/-- the places: rising, in the table -/
structure Tab (es : Array (Int × Value)) (t : SetTable) : Prop where
  plain : t.plain = true
  dum : t.dummies = #[]
  size : t.place.size = es.size
  rising : t.place.toList.Pairwise (· < ·)
  lt : ∀ j ∈ t.place.toList, j < t.mask + 1
  mask : (t.mask = 7 ∧ es.size ≤ 4) ∨ (15 ≤ t.mask ∧ t.place.toList.map (fun (h : Nat) => (h : Int)) = es.toList.map (·.1))

def SetRel (w : World) (S : Int → Bool) (o : Obj) : Prop :=
  ∃ es ep t, o = setO es ep t ∧ Elems S es ∧ Tab es t ∧ t.led = !(w.params.followText "set-order")

def WSetRel (S : Int → Bool) (o : Obj) : Prop :=
  ∃ es ep t, o = setO es ep t ∧ Elems S es ∧ t.plain = true ∧ t.place.size = es.size ∧ t.fill ≤ t.mask

def listO (ws : List Value) (n : Nat) : Obj := { cls := .type "list", data := .seq ws.toArray n }
def rangeO (lo hi : Int) (t u v : Tok) : Obj := { cls := .type "range", data := .fields #[.int lo t, .int hi u, .int 1 v] }

def OR (w : World) : PO → Obj → Prop
  | .list vs, o => ∃ ws n, o = listO ws n ∧ VRs vs ws
  | .set S, o => SetRel w S o
  | .wset S, o => WSetRel S o
  | .range lo hi, o => ∃ t u v, o = rangeO lo hi t u v
  | .exc t, o => o.cls = .type "RuntimeError" ∧ ∃ vs, o.data = .fields vs ∧ vs[0]? = some (.ref t)
  | .tup vs, o => o.cls = .type "tuple" ∧ ∃ ws n, o.data = .seq ws.toArray n ∧ VRs vs ws
  | .ns m, o => ∃ es ep, o.data = .dict es ep ∧ StrKeys es ∧ ∀ x, nsFind es x = m x

structure AS where
  loc : Str → Option PV
  hp : Addr → Option PO

def upd {β : Type} (f : Addr → Option β) (a : Addr) (o : β) : Addr → Option β := fun b => if b = a then some o else f b
def updS {β : Type} (f : Str → Option β) (a : Str) (o : β) : Str → Option β := fun b => if b = a then some o else f b

def AS.st (σ : AS) (x : Str) (v : PV) : AS := { σ with loc := updS σ.loc x v }
def AS.pt (σ : AS) (a : Addr) (o : PO) : AS := { σ with hp := upd σ.hp a o }

/-! ## the ground: what stands at the top -/
structure Fn where
  addr : Addr
  name : Str
  params : Arguments
  body : List Stmt
  scope : Scope

structure Gl where
  prog : Program
  w : World
  base : Heap
  gt : Str → Option Value
  isFn : Fn → Prop

structure GlOK (G : Gl) : Prop where
  glob : ∀ (x : Str) (v : Value), G.gt x = some v → ∀ (env : Env) (A : Around) (s : Shared) (Q : Value → Shared → Prop) (E : Value → Shared → Prop),
    env.scope.kind = .function → env.kindOf x = some .globalImplicit → env.globals = mainGlobals → env.builtins = builtinsNs →
    (∀ b o, G.base.get? b = some o → s.heap.get? b = some o) → Q v s → wpAny (model G.prog G.w) A (loadName env x) Q E s
  fns : ∀ f, G.isFn f → ∃ o pm cd doc c ob vs, G.base.get? f.addr = some o ∧ o.data = .func (Calls.docDef f.name f.params f.body f.scope pm cd doc) ∧
    cd = .ref c ∧ G.base.get? c = some ob ∧ ob.data = .fields vs ∧ G.base.CodeRec cd f.name
  nolimit : G.base.NoLimit

structure Cx where
  G : Gl
  A : Around
  env : Env
  fz : Addr → Option Obj
  s0 : Shared
  wr : Str → Bool
  gl : Str → Bool
  cv : Str → Bool
  bud : Nat
  hd : Bool

structure CxOK (C : Cx) : Prop where
  ok : GlOK C.G
  kind : C.env.scope.kind = .function
  globals : C.env.globals = mainGlobals
  builtins : C.env.builtins = builtinsNs
  own : C.fz C.env.locals = none
  cellne : ∀ x c, C.env.cells.lookup x = some c → c ≠ C.env.locals
  celldist : ∀ x y c, C.env.cells.lookup x = some c → C.env.cells.lookup y = some c → x = y
  wrcell : ∀ x c, C.wr x = true → C.env.kindOf x = some .cell → C.env.cells.lookup x = some c → C.fz c = none
  wrhas : ∀ x, C.wr x = true → C.env.kindOf x = some .local ∨ (C.env.kindOf x = some .cell ∧ ∃ c, C.env.cells.lookup x = some c)
  glhas : ∀ x, C.gl x = true → C.env.kindOf x = some .globalImplicit
  handled : C.hd = true → C.A.handled = none
  cvhas : ∀ x, C.cv x = true → ∃ c, C.env.cells.lookup x = some c
  cvkind : ∀ x, C.cv x = true → C.env.kindOf x ≠ some .local
  depth : C.A.depth + C.bud < recursionLimit
  units : C.A.units + 3 * C.bud + 100 < cLine
  base : ∀ b o, C.G.base.get? b = some o → C.fz b = some o
  code : ∃ c o vs, C.env.code = .ref c ∧ C.G.base.get? c = some o ∧ o.data = .fields vs

structure RelH (C : Cx) (σ : AS) (h : Heap) : Prop where
  keep : ∀ b o, C.fz b = some o → h.get? b = some o
  ns : ∃ m, h.Ns C.env.locals m ∧ ∀ x v, σ.loc x = some v → C.env.kindOf x = some .local → ∃ u, m x = some u ∧ VR v u
  cell : ∀ x v, σ.loc x = some v → C.env.kindOf x ≠ some .local → ∃ c u, C.env.cells.lookup x = some c ∧ h.IsCell c (some u) ∧ VR v u
  kinds : ∀ x v, σ.loc x = some v → C.env.kindOf x = some .local ∨ C.env.kindOf x = some .cell ∨ C.env.kindOf x = some .free
  cells : ∀ x c, C.env.cells.lookup x = some c → ∃ v, h.IsCell c v
  obj : ∀ a o, σ.hp a = some o → ∃ ob, h.get? a = some ob ∧ OR C.G.w o ob
  free : ∀ a o, σ.hp a = some o → C.fz a = none ∧ a ≠ C.env.locals ∧ ∀ x c, C.env.cells.lookup x = some c → a ≠ c

def Rel (C : Cx) (σ : AS) (s : Shared) : Prop := CxOK C ∧ ∃ h tk, s = { C.s0 with heap := h, toks := tk } ∧ RelH C σ h

theorem Rel.heap {C : Cx} {σ : AS} {s : Shared} (R : Rel C σ s) : RelH C σ s.heap := by
  obtain ⟨_, h, tk, rfl, r⟩ := R; exact r

theorem Rel.to {C : Cx} {σ σ' : AS} {s : Shared} (R : Rel C σ s) {h' : Heap} {tk : Nat} (r : RelH C σ' h') : Rel C σ' { s with heap := h', toks := tk } := by
  obtain ⟨o, h, t, rfl, _⟩ := R; exact ⟨o, h', tk, rfl, r⟩

theorem Rel.toH {C : Cx} {σ σ' : AS} {s : Shared} (R : Rel C σ s) {h' : Heap} (r : RelH C σ' h') : Rel C σ' { s with heap := h' } := by
  obtain ⟨o, h, t, rfl, _⟩ := R; exact ⟨o, h', t, rfl, r⟩

theorem Rel.tok {C : Cx} {σ : AS} {s : Shared} (R : Rel C σ s) {tk : Nat} : Rel C σ { s with toks := tk } := by
  obtain ⟨o, h, t, rfl, r⟩ := R; exact ⟨o, h, tk, rfl, r⟩

/-- what is new or out of sight may come; all else stays -/
theorem RelH.keeps {C : Cx} {σ : AS} {h h' : Heap} (r : RelH C σ h) (hk : ∀ b o, h.get? b = some o → h'.get? b = some o) : RelH C σ h' where
  keep := fun b o e => hk b o (r.keep b o e)
  ns := let ⟨m, hm, hx⟩ := r.ns; ⟨m, hm.keeps hk, hx⟩
  cell := fun x v e k => let ⟨c, u, hc, hu, hv⟩ := r.cell x v e k; ⟨c, u, hc, hu.keeps hk, hv⟩
  kinds := r.kinds
  cells := fun x c e => let ⟨v, hv⟩ := r.cells x c e; ⟨v, hv.keeps hk⟩
  obj := fun a o e => let ⟨ob, ho, hr⟩ := r.obj a o e; ⟨ob, hk a ob ho, hr⟩
  free := r.free

theorem RelH.push {C : Cx} {σ : AS} {h : Heap} (r : RelH C σ h) (o : Obj) : RelH C σ (h.push o) := r.keeps fun _ _ e => Heap.get?_push_of_some _ e

/-- the heap keeps all but what is out of sight -/
theorem RelH.keepsBut {C : Cx} {σ : AS} {h h' : Heap} {it : Addr} (r : RelH C σ h) (hk : ∀ b o, b ≠ it → h.get? b = some o → h'.get? b = some o)
    (hf : C.fz it = none) (hL : it ≠ C.env.locals) (hc : ∀ x c, C.env.cells.lookup x = some c → it ≠ c) (hh : σ.hp it = none) : RelH C σ h' where
  keep := fun b o e => hk b o (by rintro rfl; rw [hf] at e; cases e) (r.keep b o e)
  ns := let ⟨m, ⟨o, es, ep, ho, hr⟩, hx⟩ := r.ns; ⟨m, ⟨o, es, ep, hk _ _ (Ne.symm hL) ho, hr⟩, hx⟩
  cell := fun x v e k => let ⟨c, u, hc', ⟨o, ho, hd⟩, hv⟩ := r.cell x v e k; ⟨c, u, hc', ⟨o, hk _ _ (Ne.symm (hc x c hc')) ho, hd⟩, hv⟩
  kinds := r.kinds
  cells := fun x c e => let ⟨v, o, ho, hd⟩ := r.cells x c e; ⟨v, o, hk _ _ (Ne.symm (hc x c e)) ho, hd⟩
  obj := fun a o e => let ⟨ob, ho, hr⟩ := r.obj a o e; ⟨ob, hk a ob (by rintro rfl; rw [hh] at e; cases e) ho, hr⟩
  free := r.free

/-- an address that no object bears yet is out of sight -/
theorem RelH.fresh {C : Cx} {σ : AS} {h : Heap} (r : RelH C σ h) {a : Addr} (ha : h.get? a = none) :
    C.fz a = none ∧ a ≠ C.env.locals ∧ (∀ x c, C.env.cells.lookup x = some c → a ≠ c) ∧ σ.hp a = none := by
  refine ⟨?_, ?_, ?_, ?_⟩
  · cases e : C.fz a with
    | none => rfl
    | some o => rw [r.keep a o e] at ha; cases ha
  · rintro rfl
    obtain ⟨m, ⟨o, _, _, ho, _⟩, _⟩ := r.ns
    rw [ho] at ha; cases ha
  · rintro x c e rfl
    obtain ⟨v, o, ho, _⟩ := r.cells x _ e
    rw [ho] at ha; cases ha
  · cases e : σ.hp a with
    | none => rfl
    | some o => obtain ⟨ob, ho, _⟩ := r.obj a o e; rw [ho] at ha; cases ha

theorem heap_size_none (h : Heap) : h.get? h.objs.size = none := by
  cases e : h.get? h.objs.size with
  | none => rfl
  | some o => exact absurd (Heap.lt_size e) (Nat.lt_irrefl _)

/-- a new object comes onto the abstract heap -/
theorem RelH.alloc {C : Cx} {σ : AS} {h h' : Heap} {p : PO} {o : Obj} {a : Addr} (r : RelH C σ h) (ha : h.get? a = none) (hk : ∀ b o, h.get? b = some o → h'.get? b = some o)
    (ho : h'.get? a = some o) (hr : OR C.G.w p o) : RelH C (σ.pt a p) h' where
  keep := fun b o e => hk b o (r.keep b o e)
  ns := let ⟨m, hm, hx⟩ := r.ns; ⟨m, hm.keeps hk, hx⟩
  cell := fun x v e k => let ⟨c, u, hc, hu, hv⟩ := r.cell x v e k; ⟨c, u, hc, hu.keeps hk, hv⟩
  kinds := r.kinds
  cells := fun x c e => let ⟨v, hv⟩ := r.cells x c e; ⟨v, hv.keeps hk⟩
  obj := fun b q e => by
    unfold AS.pt upd at e
    dsimp only at e
    split at e
    · next hb => subst hb; cases e; exact ⟨_, ho, hr⟩
    · exact let ⟨ob, ho, hr⟩ := r.obj b q e; ⟨ob, hk b ob ho, hr⟩
  free := fun b q e => by
    unfold AS.pt upd at e
    dsimp only at e
    split at e
    · next hb => subst hb; have := r.fresh ha; exact ⟨this.1, this.2.1, this.2.2.1⟩
    · exact r.free b q e

/-- an object of the abstract heap is changed -/
theorem RelH.change {C : Cx} {σ : AS} {h h' : Heap} {p p' : PO} {o : Obj} {a : Addr} (r : RelH C σ h) (ha : σ.hp a = some p)
    (hs : Heap.SameBut a h h') (ho : h'.get? a = some o) (hr : OR C.G.w p' o) : RelH C (σ.pt a p') h' where
  keep := fun b o e => (hs.2 b (by rintro rfl; rw [(r.free b p ha).1] at e; cases e)).trans (r.keep b o e)
  ns := let ⟨m, hm, hx⟩ := r.ns; ⟨m, hm.sameBut hs (Ne.symm (r.free a p ha).2.1), hx⟩
  cell := fun x v e k => let ⟨c, u, hc, hu, hv⟩ := r.cell x v e k; ⟨c, u, hc, hu.sameBut hs (Ne.symm ((r.free a p ha).2.2 x c hc)), hv⟩
  kinds := r.kinds
  cells := fun x c e => let ⟨v, hv⟩ := r.cells x c e; ⟨v, hv.sameBut hs (Ne.symm ((r.free a p ha).2.2 x c e))⟩
  obj := fun b q e => by
    unfold AS.pt upd at e
    dsimp only at e
    split at e
    · next hb => subst hb; cases e; exact ⟨_, ho, hr⟩
    · next hb => exact let ⟨ob, ho, hr⟩ := r.obj b q e; ⟨ob, (hs.2 b hb).trans ho, hr⟩
  free := fun b q e => by
    unfold AS.pt upd at e
    dsimp only at e
    split at e
    · next hb => subst hb; exact r.free _ p ha
    · exact r.free b q e

/-- more is kept still -/
def Cx.with (C : Cx) (fz : Addr → Option Obj) : Cx := { C with fz := fz }
theorem RelH.less {C : Cx} {fz' : Addr → Option Obj} {σ : AS} {h : Heap} (hf : ∀ b o, C.fz b = some o → fz' b = some o) (r : RelH (C.with fz') σ h) : RelH C σ h where
  keep := fun b o e => r.keep b o (hf b o e)
  ns := r.ns
  cell := r.cell
  kinds := r.kinds
  cells := r.cells
  obj := r.obj
  free := fun a o e => by
    obtain ⟨h1, h2, h3⟩ := r.free a o e
    refine ⟨?_, h2, h3⟩
    cases e' : C.fz a with
    | none => rfl
    | some ob => rw [show (C.with fz').fz a = some ob from hf a ob e'] at h1; cases h1

/-! ## the logic -/
def AG {α β : Type} (R : β → α → Prop) (C : Cx) (t : Sem α) (Q : β → AS → Prop) (E : Value → Shared → Prop) (σ : AS) : Prop :=
  ∀ s, Rel C σ s → wpAny (model C.G.prog C.G.w) C.A t (fun a s' => ∃ b σ', R b a ∧ Rel C σ' s' ∧ Q b σ') E s

inductive PF where
  | next | brk | cont
  | ret (v : PV)
inductive FR : PF → Flow → Prop where
  | next : FR .next .next
  | brk : FR .brk .brk
  | cont : FR .cont .cont
  | ret {p v} : VR p v → FR (.ret p) (.ret v)

abbrev AV (C : Cx) (t : Sem Value) (Q : PV → AS → Prop) (E : Value → Shared → Prop) (σ : AS) : Prop := AG VR C t Q E σ
abbrev AVs (C : Cx) (t : Sem (List Value)) (Q : List PV → AS → Prop) (E : Value → Shared → Prop) (σ : AS) : Prop := AG VRs C t Q E σ
abbrev AF (C : Cx) (t : Sem Flow) (Q : PF → AS → Prop) (E : Value → Shared → Prop) (σ : AS) : Prop := AG FR C t Q E σ
abbrev AB (C : Cx) (t : Sem Bool) (Q : Bool → AS → Prop) (E : Value → Shared → Prop) (σ : AS) : Prop := AG Eq C t Q E σ
abbrev AU (C : Cx) (t : Sem Unit) (Q : Unit → AS → Prop) (E : Value → Shared → Prop) (σ : AS) : Prop := AG Eq C t Q E σ

section
variable {α β γ δ : Type} {R : β → α → Prop} {R' : δ → γ → Prop} {C : Cx} {E : Value → Shared → Prop} {σ : AS}

theorem wpAG {prog : Program} {w : World} {A : Around} {t : Sem α} {Q : β → AS → Prop} {Q' : α → Shared → Prop} {E' : Value → Shared → Prop} {s : Shared}
    (h : wpAny (model prog w) A t (fun a s' => ∃ b σ', R b a ∧ Rel C σ' s' ∧ Q b σ') E s) (k : ∀ a s' b σ', R b a → Rel C σ' s' → Q b σ' → Q' a s') (e : ∀ v s', E v s' → E' v s') : wpAny (model prog w) A t Q' E' s :=
  wpAny_mono h (fun a s' hh => hh.elim fun b hb => hb.elim fun σ' hc => k a s' b σ' hc.1 hc.2.1 hc.2.2) e

theorem AG.mono {t : Sem α} {Q Q' : β → AS → Prop} (h : AG R C t Q E σ) (hq : ∀ b σ, Q b σ → Q' b σ) : AG R C t Q' E σ :=
  fun s r => wpAny_mono (h s r) (fun _ _ ⟨b, σ', h1, h2, h3⟩ => ⟨b, σ', h1, h2, hq b σ' h3⟩) fun _ _ e => e

theorem AG.bind {t : Sem α} {k : α → Sem γ} {Q : δ → AS → Prop} (h : AG R C t (fun b σ' => ∀ a, R b a → AG R' C (k a) Q E σ') E σ) : AG R' C (t >>= k) Q E σ :=
  fun s r => wpAny_bind (wpAny_mono (h s r) (fun a s' ⟨_, _, h1, h2, h3⟩ => h3 a h1 s' h2) fun _ _ e => e)

theorem AG.pure {a : α} {b : β} {Q : β → AS → Prop} (hr : R b a) (h : Q b σ) : AG R C (Pure.pure a) Q E σ :=
  fun _ r => wpAny_pure ⟨b, σ, hr, r, h⟩

theorem AG.of_eq {t t' : Sem α} {Q : β → AS → Prop} (e : t = t') (h : AG R C t' Q E σ) : AG R C t Q E σ := e ▸ h
end

end Mine

namespace Mine

section
variable {C : Cx} {E : Value → Shared → Prop} {σ : AS}

/-! ## names -/
theorem AV_loadName {x : Str} {v : PV} {Q : PV → AS → Prop} (hv : σ.loc x = some v) (h : Q v σ) (hn : (x == ("__classdict__" : Str)) = false := by decide) :
    AV C (loadName C.env x) Q E σ := fun s r => by
  have rh := r.heap
  have ok := r.1
  rcases rh.kinds x v hv with hk | hk | hk
  · obtain ⟨m, hm, hx⟩ := rh.ns
    obtain ⟨u, hu, hvu⟩ := hx x v hv hk
    exact wpAny_loadName_local ok.kind hk hm hu ⟨v, σ, hvu, r, h⟩
  · obtain ⟨c, u, hc, hcell, hvu⟩ := rh.cell x v hv (by rw [hk]; intro h; cases h)
    exact wpAny_loadName_cell ok.kind hk hc hcell ⟨v, σ, hvu, r, h⟩
  · obtain ⟨c, u, hc, hcell, hvu⟩ := rh.cell x v hv (by rw [hk]; intro h; cases h)
    exact wpAny_loadName_free ok.kind hk hc hcell ⟨v, σ, hvu, r, h⟩ hn

theorem AV_name {x : Str} {pos : Pos} {v : PV} {Q : PV → AS → Prop} (hv : σ.loc x = some v) (h : Q v σ) (hd : (x == ("__debug__" : Str)) = false := by decide)
    (hn : (x == ("__classdict__" : Str)) = false := by decide) : AV C (eval (.Name x pos) C.env) Q E σ :=
  fun s r => wpAny_Name (AV_loadName hv h hn s r) hd

theorem AV_glob {x : Str} {pos : Pos} {v : Value} {Q : PV → AS → Prop} (hg : C.gl x = true) (hv : C.G.gt x = some v) (h : Q (.val v) σ) (hd : (x == ("__debug__" : Str)) = false := by decide) :
    AV C (eval (.Name x pos) C.env) Q E σ := fun s r => by
  have ok := r.1
  refine wpAny_Name (ok.ok.glob x v hv C.env C.A s _ _ ok.kind (ok.glhas x hg) ok.globals ok.builtins (fun b o e => r.heap.keep b o (ok.base b o e)) ⟨_, σ, .val v, r, h⟩) hd

theorem RelH.storeLocal {h h' : Heap} {x : Str} {v : PV} {u : Value} (ok : CxOK C) (r : RelH C σ h) (hk : C.env.kindOf x = some .local) (hv : VR v u) {m : Str → Option Value}
    (_hm : h.Ns C.env.locals m) (hx : ∀ x v, σ.loc x = some v → C.env.kindOf x = some .local → ∃ u, m x = some u ∧ VR v u)
    (hn : h'.Ns C.env.locals (fun y => if y = x then some u else m y)) (hs : Heap.SameBut C.env.locals h h') : RelH C (σ.st x v) h' where
  keep := fun b o e => (hs.2 b (by rintro rfl; rw [ok.own] at e; cases e)).trans (r.keep b o e)
  ns := ⟨_, hn, fun y w e k => by
    unfold AS.st updS at e
    dsimp only at e ⊢
    split at e
    · next hb => cases e; exact ⟨u, by rw [if_pos hb], hv⟩
    · next hb => rw [if_neg hb]; exact hx y w e k⟩
  cell := fun y w e k => by
    unfold AS.st updS at e
    dsimp only at e
    split at e
    · next hb => subst hb; exact absurd hk k
    · exact let ⟨c, u, hc, hu, hv⟩ := r.cell y w e k; ⟨c, u, hc, hu.sameBut hs (ok.cellne y c hc), hv⟩
  kinds := fun y w e => by
    unfold AS.st updS at e
    dsimp only at e
    split at e
    · next hb => subst hb; exact .inl hk
    · exact r.kinds y w e
  cells := fun y c e => let ⟨v, hv⟩ := r.cells y c e; ⟨v, hv.sameBut hs (ok.cellne y c e)⟩
  obj := fun a o e => let ⟨ob, ho, hr⟩ := r.obj a o e; ⟨ob, (hs.2 a (r.free a o e).2.1).trans ho, hr⟩
  free := r.free

theorem RelH.storeCell {h h' : Heap} {x : Str} {v : PV} {u : Value} {c : Addr} (ok : CxOK C) (r : RelH C σ h) (hk : C.env.kindOf x = some .cell) (hw : C.wr x = true) (hv : VR v u)
    (hc : C.env.cells.lookup x = some c) (hn : h'.IsCell c (some u)) (hs : Heap.SameBut c h h') : RelH C (σ.st x v) h' where
  keep := fun b o e => (hs.2 b (by rintro rfl; rw [ok.wrcell x b hw hk hc] at e; cases e)).trans (r.keep b o e)
  ns := let ⟨m, hm, hx⟩ := r.ns; ⟨m, hm.sameBut hs (Ne.symm (ok.cellne x c hc)), fun y w e k => by
    unfold AS.st updS at e
    dsimp only at e
    split at e
    · next hb => subst hb; rw [hk] at k; cases k
    · exact hx y w e k⟩
  cell := fun y w e k => by
    unfold AS.st updS at e
    dsimp only at e
    split at e
    · next hb => subst hb; cases e; exact ⟨c, u, hc, hn, hv⟩
    · next hb => exact let ⟨c', u, hc', hu, hv⟩ := r.cell y w e k; ⟨c', u, hc', hu.sameBut hs (by rintro rfl; exact hb (ok.celldist _ _ _ hc' hc)), hv⟩
  kinds := fun y w e => by
    unfold AS.st updS at e
    dsimp only at e
    split at e
    · next hb => subst hb; exact .inr (.inl hk)
    · exact r.kinds y w e
  cells := fun y c' e => by
    by_cases hb : c' = c
    · subst hb; exact ⟨_, hn⟩
    · exact let ⟨v, hv⟩ := r.cells y c' e; ⟨v, hv.sameBut hs hb⟩
  obj := fun a o e => let ⟨ob, ho, hr⟩ := r.obj a o e; ⟨ob, (hs.2 a ((r.free a o e).2.2 x c hc)).trans ho, hr⟩
  free := r.free

theorem AU_store {x : Str} {v : PV} {u : Value} {Q : Unit → AS → Prop} (hw : C.wr x = true) (hv : VR v u) (h : Q () (σ.st x v)) : AU C (storeName C.env x u) Q E σ := fun s r => by
  have rh := r.heap
  have ok := r.1
  rcases ok.wrhas x hw with hk | ⟨hk, c, hc⟩
  · obtain ⟨m, hm, hx⟩ := rh.ns
    refine wpAny_storeName_local hk hm (fun h' hn hs => ⟨(), _, rfl, r.to (rh.storeLocal ok hk hv hm hx hn hs), h⟩) ?_
    rw [ok.kind]; rfl
  · obtain ⟨w, hcell⟩ := rh.cells x c hc
    exact wpAny_storeName_cell ok.kind hk hc hcell fun h' hn hs => ⟨(), _, rfl, r.toH (rh.storeCell ok hk hw hv hc hn hs), h⟩

/-! ## constants -/
theorem AV_int {i : Int} {k : Nat} {pos : Pos} {Q : PV → AS → Prop} (h : Q (.int i) σ) : AV C (eval (.Constant (.int i) k pos) C.env) Q E σ :=
  fun _ r => wpAny_Constant_int ⟨_, σ, .int i _, r.tok, h⟩
theorem AV_str {x : Str} {k : Nat} {pos : Pos} {Q : PV → AS → Prop} (h : Q (.str x) σ) : AV C (eval (.Constant (.str x) k pos) C.env) Q E σ :=
  fun _ r => wpAny_Constant_str ⟨_, σ, .str x _, r.tok, h⟩
theorem AV_none {k : Nat} {pos : Pos} {Q : PV → AS → Prop} (h : Q .none σ) : AV C (eval (.Constant .none k pos) C.env) Q E σ :=
  fun _ r => wpAny_Constant_none ⟨_, σ, .none, r, h⟩
theorem AV_bool {b : Bool} {k : Nat} {pos : Pos} {Q : PV → AS → Prop} (h : Q (.bool b) σ) : AV C (eval (.Constant (.bool b) k pos) C.env) Q E σ :=
  fun _ r => wpAny_Constant_bool ⟨_, σ, .bool b, r, h⟩

/-! ## operators -/
def ABin (C : Cx) (f : Value → Value → Sem Value) (p q : PV) (Q : PV → AS → Prop) (E : Value → Shared → Prop) (σ : AS) : Prop := ∀ a b, VR p a → VR q b → AV C (f a b) Q E σ
def AUn (C : Cx) (f : Value → Sem Value) (p : PV) (Q : PV → AS → Prop) (E : Value → Shared → Prop) (σ : AS) : Prop := ∀ a, VR p a → AV C (f a) Q E σ

theorem AV_binop {l r : Expr} {op : Operator} {pos : Pos} {Q : PV → AS → Prop}
    (h : AV C (eval l C.env) (fun p σ₁ => AV C (eval r C.env) (fun q σ₂ => ABin C (binaryOp op) p q Q E σ₂) E σ₁) E σ) : AV C (eval (.BinOp l op r pos) C.env) Q E σ := fun s hr =>
  wpAny_BinOp (wpAG (h s hr) (fun a s₁ _ _ h1 h2 h3 => wpAG (h3 s₁ h2) (fun b s₂ _ _ k1 k2 k3 => k3 a b h1 k1 s₂ k2) fun _ _ e => e) fun _ _ e => e)

theorem AV_compare {l r : Expr} {op : CmpOp} {pos : Pos} {Q : PV → AS → Prop}
    (h : AV C (eval l C.env) (fun p σ₁ => AV C (eval r C.env) (fun q σ₂ => ABin C (compareOp op) p q Q E σ₂) E σ₁) E σ) (hm : behindInMarks op r = false := by rfl) :
    AV C (eval (.Compare l [op] [r] pos) C.env) Q E σ := fun s hr =>
  wpAny_Compare1 (wpAG (h s hr) (fun a s₁ _ _ h1 h2 h3 => wpAG (h3 s₁ h2) (fun b s₂ _ _ k1 k2 k3 => k3 a b h1 k1 s₂ k2) fun _ _ e => e) fun _ _ e => e) hm

theorem AV_unary {x : Expr} {op : UnaryOp} {pos : Pos} {Q : PV → AS → Prop} (h : AV C (eval x C.env) (fun p σ₁ => AUn C (unaryOp op) p Q E σ₁) E σ) : AV C (eval (.UnaryOp op x pos) C.env) Q E σ :=
  fun s hr => wpAny_UnaryOp (wpAG (h s hr) (fun a s₁ _ _ h1 h2 h3 => h3 a h1 s₁ h2) fun _ _ e => e)

/-! ## tests -/
def ATr (C : Cx) (p : PV) (Q : Bool → AS → Prop) (E : Value → Shared → Prop) (σ : AS) : Prop := ∀ a, VR p a → AB C (truthy a) Q E σ

theorem AT_bool {b : Bool} {Q : Bool → AS → Prop} (h : Q b σ) : ATr C (.bool b) Q E σ := fun a ha s r => by
  cases ha; exact wpAny_truthy_bool ⟨b, σ, rfl, r, h⟩

theorem AB_compare {l r : Expr} {op : CmpOp} {pos : Pos} {whole : Sem Value} {Q : Bool → AS → Prop}
    (h : AV C (eval l C.env) (fun p σ₁ => AV C (eval r C.env) (fun q σ₂ => ABin C (compareOp op) p q (fun c σ₃ => ATr C c Q E σ₃) E σ₂) E σ₁) E σ) (hm : behindInMarks op r = false := by rfl) :
    AB C (isTrue (.Compare l [op] [r] pos) C.env whole) Q E σ := fun s hr =>
  wpAny_isTrue_Compare1 (wpAG (h s hr) (fun a s₁ _ _ h1 h2 h3 => wpAG (h3 s₁ h2) (fun b s₂ _ _ k1 k2 k3 =>
    wpAG (k3 a b h1 k1 s₂ k2) (fun c s₃ _ _ j1 j2 j3 => j3 c j1 s₃ j2) fun _ _ e => e) fun _ _ e => e) fun _ _ e => e) hm

theorem AB_not {x : Expr} {pos : Pos} {whole : Sem Value} {Q : Bool → AS → Prop} (h : AB C (isTrue x C.env (eval x C.env)) (fun b σ₁ => Q (!b) σ₁) E σ) :
    AB C (isTrue (.UnaryOp .Not x pos) C.env whole) Q E σ := fun s hr =>
  wpAny_isTrue_Not (wpAG (h s hr) (fun a s₁ b σ' h1 h2 h3 => ⟨!b, σ', by rw [h1], h2, h3⟩) fun _ _ e => e)

theorem AB_and {xs : List Expr} {pos : Pos} {whole : Sem Value} {Q : Bool → AS → Prop} (h : AB C (allTrue .And xs C.env) Q E σ) : AB C (isTrue (.BoolOp .And xs pos) C.env whole) Q E σ :=
  fun s hr => wpAny_isTrue_BoolOp (h s hr)
theorem AB_or {xs : List Expr} {pos : Pos} {whole : Sem Value} {Q : Bool → AS → Prop} (h : AB C (allTrue .Or xs C.env) Q E σ) : AB C (isTrue (.BoolOp .Or xs pos) C.env whole) Q E σ :=
  fun s hr => wpAny_isTrue_BoolOp (h s hr)
theorem AB_and_nil {Q : Bool → AS → Prop} (h : Q true σ) : AB C (allTrue .And [] C.env) Q E σ := fun _ r => wpAny_allTrue_And_nil ⟨true, σ, rfl, r, h⟩
theorem AB_or_nil {Q : Bool → AS → Prop} (h : Q false σ) : AB C (allTrue .Or [] C.env) Q E σ := fun _ r => wpAny_allTrue_Or_nil ⟨false, σ, rfl, r, h⟩
theorem AB_and_cons {x : Expr} {xs : List Expr} {Q : Bool → AS → Prop} (h : AB C (isTrue x C.env (eval x C.env)) (fun b σ₁ => if b = true then AB C (allTrue .And xs C.env) Q E σ₁ else Q false σ₁) E σ) :
    AB C (allTrue .And (x :: xs) C.env) Q E σ := fun s hr =>
  wpAny_allTrue_And_cons (wpAG (h s hr) (fun a s₁ b σ' h1 h2 h3 => by
    subst h1
    cases b with
    | true => exact h3 s₁ h2
    | false => exact ⟨false, σ', rfl, h2, h3⟩) fun _ _ e => e)
theorem AB_or_cons {x : Expr} {xs : List Expr} {Q : Bool → AS → Prop} (h : AB C (isTrue x C.env (eval x C.env)) (fun b σ₁ => if b = true then Q true σ₁ else AB C (allTrue .Or xs C.env) Q E σ₁) E σ) :
    AB C (allTrue .Or (x :: xs) C.env) Q E σ := fun s hr =>
  wpAny_allTrue_Or_cons (wpAG (h s hr) (fun a s₁ b σ' h1 h2 h3 => by
    subst h1
    cases b with
    | true => exact ⟨true, σ', rfl, h2, h3⟩
    | false => exact h3 s₁ h2) fun _ _ e => e)

/-! ## statements -/
theorem AF_nil {Q : PF → AS → Prop} (h : Q .next σ) : AF C (execs [] C.env) Q E σ := fun _ r => wpAny_execs_nil ⟨.next, σ, .next, r, h⟩

theorem AF_cons {st : Stmt} {rest : List Stmt} {Q : PF → AS → Prop}
    (h : AF C (exec st C.env) (fun f σ₁ => match f with | .next => AF C (execs rest C.env) Q E σ₁ | f => Q f σ₁) E σ) : AF C (execs (st :: rest) C.env) Q E σ := fun s r =>
  wpAny_execs_cons (wpAG (h s r) (fun f s₁ g σ' h1 h2 h3 => by
    cases h1 with
    | next => exact h3 s₁ h2
    | brk => exact ⟨.brk, σ', .brk, h2, h3⟩
    | cont => exact ⟨.cont, σ', .cont, h2, h3⟩
    | ret hv => exact ⟨_, σ', .ret hv, h2, h3⟩) fun _ _ e => e)

theorem AF_assign {x : Str} {p pos : Pos} {value : Expr} {Q : PF → AS → Prop} (h : AV C (eval value C.env) (fun v σ₁ => C.wr x = true ∧ Q .next (σ₁.st x v)) E σ)
    (hs : swapsWith value (some (.Name x p)) pos.line C.env = pure false := by rfl) : AF C (exec (.Assign [.Name x p] value pos) C.env) Q E σ := fun s r =>
  wpAny_Assign_Name (wpAny_mono (h s r) (fun v s₁ ⟨_, _, h1, h2, hw, h3⟩ => wpAG (AU_store hw h1 h3 s₁ h2) (fun _ s₂ _ σ₂ _ k2 k3 => ⟨.next, σ₂, .next, k2, k3⟩) fun _ _ e => e) fun _ _ e => e) hs

theorem AF_if {test : Expr} {body orelse : List Stmt} {pos : Pos} {Q : PF → AS → Prop}
    (h : AB C (isTrue test C.env (eval test C.env)) (fun b σ₁ => if b = true then AF C (execs body C.env) Q E σ₁ else AF C (execs orelse C.env) Q E σ₁) E σ) :
    AF C (exec (.If test body orelse pos) C.env) Q E σ := fun s r =>
  wpAny_If (wpAG (h s r) (fun a s₁ b σ' h1 h2 h3 => by
    subst h1
    cases b with
    | true => exact h3 s₁ h2
    | false => exact h3 s₁ h2) fun _ _ e => e)

theorem AF_return {e : Expr} {pos : Pos} {Q : PF → AS → Prop} (h : AV C (eval e C.env) (fun v σ₁ => Q (.ret v) σ₁) E σ) : AF C (exec (.Return (some e) pos) C.env) Q E σ := fun s r =>
  wpAny_Return_some (wpAG (h s r) (fun v s₁ p σ' h1 h2 h3 => ⟨.ret p, σ', .ret h1, h2, h3⟩) fun _ _ e => e)

theorem AF_break {pos : Pos} {Q : PF → AS → Prop} (h : Q .brk σ) : AF C (exec (.Break pos) C.env) Q E σ := fun _ r => wpAny_Break ⟨.brk, σ, .brk, r, h⟩
/-- a statement that is an expression whose value is None (a call of a method) -/
theorem AF_expr {e : Expr} {pos : Pos} {Q : PF → AS → Prop} (h : AV C (eval e C.env) (fun v σ₁ => v = .none ∧ Q .next σ₁) E σ)
    (hs : swapsWith e none pos.line C.env = pure false := by rfl) : AF C (exec (.Expr e pos) C.env) Q E σ := fun s r =>
  wpAny_Expr (wpAny_mono (h s r) (fun v s₁ ⟨p, σ', h1, h2, e1, h3⟩ => by
    subst e1
    cases h1
    exact ⟨.next, σ', .next, h2, h3⟩) fun _ _ e => e) (by unfold interactive; rw [r.1.kind]; rfl) hs
end

end Mine

namespace Mine

/-- like C, more kept still -/
structure Like (C C' : Cx) : Prop where
  G : C'.G = C.G
  A : C'.A = C.A
  env : C'.env = C.env
  s0 : C'.s0 = C.s0
  wr : C'.wr = C.wr
  gl : C'.gl = C.gl
  cv : C'.cv = C.cv
  bud : C'.bud = C.bud
  hd : C'.hd = C.hd
  fz : ∀ b o, C.fz b = some o → C'.fz b = some o

theorem Like.refl (C : Cx) : Like C C := ⟨rfl, rfl, rfl, rfl, rfl, rfl, rfl, rfl, rfl, fun _ _ e => e⟩
theorem Like.trans {C C' C'' : Cx} (h : Like C C') (k : Like C' C'') : Like C C'' :=
  ⟨k.G.trans h.G, k.A.trans h.A, k.env.trans h.env, k.s0.trans h.s0, k.wr.trans h.wr, k.gl.trans h.gl, k.cv.trans h.cv, k.bud.trans h.bud, k.hd.trans h.hd, fun b o e => k.fz b o (h.fz b o e)⟩
theorem Like.with {C : Cx} {fz' : Addr → Option Obj} (hf : ∀ b o, C.fz b = some o → fz' b = some o) : Like C (C.with fz') := ⟨rfl, rfl, rfl, rfl, rfl, rfl, rfl, rfl, rfl, hf⟩

/-- the iterator at it goes over vs -/
structure AIter (C : Cx) (it : Addr) (fp : List Addr) (vs : List PV) (Ok : AS → Prop) (St : Nat → Heap → Prop) : Prop where
  frame : ∀ i h h', St i h → (∀ b, b ∈ it :: fp → ∀ o, h.get? b = some o → h'.get? b = some o) → St i h'
  has : ∀ i h, St i h → ∃ o, h.get? it = some o
  item : ∀ i σ s (Q : Option Value → Shared → Prop) (E : Value → Shared → Prop) v, vs[i]? = some v → Rel C σ s → Ok σ → St i s.heap →
    (∀ h' tk u, VR v u → St (i + 1) h' → Heap.ExtBut it s.heap h' → Q (some u) { s with heap := h', toks := tk }) → wpAny (model C.G.prog C.G.w) C.A (pyNext (.ref it)) Q E s
  done : ∀ σ s (Q : Option Value → Shared → Prop) (E : Value → Shared → Prop), Rel C σ s → Ok σ → St vs.length s.heap →
    (∀ h' tk, Heap.ExtBut it s.heap h' → Q none { s with heap := h', toks := tk }) → wpAny (model C.G.prog C.G.w) C.A (pyNext (.ref it)) Q E s
  self : ∀ i s (Q : Value → Shared → Prop) (E : Value → Shared → Prop), St i s.heap → Q (.ref it) s → wpAny (model C.G.prog C.G.w) C.A (pyIter (.ref it)) Q E s

def Iterable (C : Cx) (p : PV) (Ok : AS → Prop) (En : List PV → Prop) : Prop :=
  ∀ σ s u (Q : Value → Shared → Prop) (E : Value → Shared → Prop), VR p u → Rel C σ s → Ok σ →
    (∀ it h' tk vs St, En vs → s.heap.get? it = none → (∀ b o, s.heap.get? b = some o → h'.get? b = some o) → St 0 h' → AIter C it [] vs Ok St → Q (.ref it) { s with heap := h', toks := tk }) →
    wpAny (model C.G.prog C.G.w) C.A (pyIter u) Q E s

theorem isList_of {w : World} {h : Heap} {a : Addr} {ob : Obj} {vs : List PV} (ho : h.get? a = some ob) (hr : OR w (.list vs) ob) : ∃ ws, h.IsList a ws.toArray ∧ VRs vs ws := by
  obtain ⟨ws, n, rfl, hv⟩ := hr
  exact ⟨ws, ⟨_, ho, rfl, n, rfl⟩, hv⟩

theorem iter_list {C : Cx} (hd : C.hd = true) {l : Addr} {vs : List PV} : Iterable C (.ref l) (fun σ => σ.hp l = some (.list vs)) (· = vs) := by
  intro σ s u Q E hu r ok h
  cases hu
  obtain ⟨ob, ho, hr⟩ := r.heap.obj l _ ok
  obtain ⟨ws, hl, hv⟩ := isList_of ho hr
  refine wpAny_pyIter_list hl ?_
  refine h _ _ s.toks vs (fun i h => h.IsListIter s.heap.objs.size l i) rfl (heap_size_none _) (fun b o e => Heap.get?_push_of_some _ e) ⟨_, Heap.get?_push_size _ rfl, rfl, rfl⟩ ?_
  refine ⟨?_, ?_, ?_, ?_, ?_⟩
  · intro i h h' ⟨o, ho, r⟩ hk; exact ⟨o, hk _ (.head _) o ho, r⟩
  · intro i h ⟨o, ho, _⟩; exact ⟨o, ho⟩
  · intro i σ' s' Q' E' v hv r' ok' st h'
    obtain ⟨ob, ho, hr⟩ := r'.heap.obj l _ ok'
    obtain ⟨ws, hl, hvs⟩ := isList_of ho hr
    obtain ⟨u, hu, hvu⟩ := hvs.get i v hv
    exact wpAny_pyNext_list_item st hl (x := u) (by simpa using hu) fun h1 hit hs => h' h1 s'.toks u hvu hit hs.extBut
  · intro σ' s' Q' E' r' ok' st h'
    obtain ⟨ob, ho, hr⟩ := r'.heap.obj l _ ok'
    obtain ⟨ws, hl, hvs⟩ := isList_of ho hr
    exact wpAny_pyNext_list_end (r'.1.handled hd) st hl (by simp [hvs.length]) fun h1 he => h' h1 s'.toks he
  · intro i s' Q' E' st h'
    exact wpAny_pyIter_listiter st h'

def intsFrom (lo : Int) (n : Nat) : List PV := (List.range n).map fun (i : Nat) => PV.int (lo + i)
theorem intsFrom_length (lo : Int) (n : Nat) : (intsFrom lo n).length = n := by simp [intsFrom]
theorem intsFrom_get {lo : Int} {n i : Nat} {v : PV} (h : (intsFrom lo n)[i]? = some v) : i < n ∧ v = .int (lo + i) := by
  have hi : i < n := by
    have := (List.getElem?_eq_some_iff.mp h).1
    simpa [intsFrom] using this
  refine ⟨hi, ?_⟩
  simp [intsFrom, hi] at h
  exact h.symm

theorem iter_range {C : Cx} (hd : C.hd = true) {l : Addr} {lo hi : Int} (h1 : -(2 ^ 62) ≤ lo) (h2 : lo < 2 ^ 62) (h3 : -(2 ^ 62) ≤ hi) (h4 : hi < 2 ^ 62) :
    Iterable C (.ref l) (fun σ => σ.hp l = some (.range lo hi)) (· = intsFrom lo (hi - lo).toNat) := by
  intro σ s u Q E hu r ok h
  cases hu
  obtain ⟨ob, ho, t, u', v', rfl⟩ := r.heap.obj l _ ok
  have hr : IsRange s.heap l lo hi 1 t u' v' := ho
  refine wpAny_pyIter_range hr (small_one h1 h2 h3 h4) ?_
  have hsz : Builtin.Range.rangeSize lo hi 1 = (((hi - lo).toNat : Nat) : Int) := by
    rw [rangeSize_one]; split <;> omega
  refine h _ _ s.toks _ (fun i h => IsRangeIter h s.heap.objs.size (lo + (i : Nat)) (((hi - lo).toNat : Int) - (i : Nat)) 1) rfl (heap_size_none _) (fun b o e => Heap.get?_push_of_some _ e) ?_ ?_
  · have := Heap.get?_push_size s.heap (o := { cls := .type "range_iterator", data := .fields #[rawInt lo, rawInt (Builtin.Range.rangeSize lo hi 1), rawInt 1] }) rfl
    rw [hsz] at this ⊢
    simpa [IsRangeIter] using this
  · refine ⟨?_, ?_, ?_, ?_, ?_⟩
    · intro i h h' st hk; exact hk _ (.head _) _ st
    · intro i h st; exact ⟨_, st⟩
    · intro i σ' s' Q' E' v hv r' ok' st h'
      obtain ⟨hi', rfl⟩ := intsFrom_get hv
      refine wpAny_pyNext_range_item st (by omega) fun h1 hit hs => h' h1 _ _ (.int _ _) ?_ hs.extBut
      have e1 : lo + (i : Nat) + 1 = lo + ((i + 1 : Nat) : Int) := by omega
      have e2 : ((hi - lo).toNat : Int) - (i : Nat) - 1 = ((hi - lo).toNat : Int) - ((i + 1 : Nat) : Int) := by omega
      rw [e1, e2] at hit
      exact hit
    · intro σ' s' Q' E' r' ok' st h'
      rw [intsFrom_length] at st
      exact wpAny_pyNext_range_end (r'.1.handled hd) st (by omega) fun h1 he => h' h1 s'.toks he
    · intro i s' Q' E' st h'
      exact wpAny_pyIter_rangeiter st h'

/-- the context of a loop's body: the iterator is kept still -/
theorem CxOK.with {C : Cx} (ok : CxOK C) {fz' : Addr → Option Obj} (hf : ∀ b o, C.fz b = some o → fz' b = some o) (hn : ∀ b, C.fz b = none → b = C.env.locals ∨ (∃ x, C.env.cells.lookup x = some b) → fz' b = none) : CxOK (C.with fz') where
  ok := ok.ok
  kind := ok.kind
  globals := ok.globals
  builtins := ok.builtins
  own := hn _ ok.own (.inl rfl)
  cellne := ok.cellne
  celldist := ok.celldist
  wrcell := fun x c h1 h2 h3 => hn _ (ok.wrcell x c h1 h2 h3) (.inr ⟨x, h3⟩)
  wrhas := ok.wrhas
  glhas := ok.glhas
  handled := ok.handled
  cvhas := ok.cvhas
  cvkind := ok.cvkind
  depth := ok.depth
  units := ok.units
  base := fun b o e => hf b o (ok.base b o e)
  code := ok.code

def addFz (fz : Addr → Option Obj) (it : Addr) (o : Option Obj) : Addr → Option Obj := fun b => if b = it then o else fz b

theorem Rel.freeze {C : Cx} {σ : AS} {s : Shared} (r : Rel C σ s) {it : Addr} (hf : C.fz it = none) (hL : it ≠ C.env.locals) (hc : ∀ x c, C.env.cells.lookup x = some c → it ≠ c) (hh : σ.hp it = none) :
    Rel (C.with (addFz C.fz it (s.heap.get? it))) σ s := by
  obtain ⟨ok, h, tk, rfl, rh⟩ := r
  refine ⟨ok.with ?_ ?_, h, tk, rfl, ?_⟩
  · intro b o e
    unfold addFz
    split
    · next hb => subst hb; rw [hf] at e; cases e
    · exact e
  · intro b hb hx
    unfold addFz
    split
    · next hb' =>
      subst hb'
      rcases hx with hx | ⟨x, hx⟩
      · exact absurd hx hL
      · exact absurd rfl (hc x _ hx)
    · exact hb
  · exact {
      keep := fun b o e => by
        dsimp only [Cx.with, addFz] at e
        split at e
        · next hb => subst hb; exact e
        · exact rh.keep b o e
      ns := rh.ns
      cell := rh.cell
      kinds := rh.kinds
      cells := rh.cells
      obj := rh.obj
      free := fun a o e => by
        obtain ⟨h1, h2, h3⟩ := rh.free a o e
        refine ⟨?_, h2, h3⟩
        dsimp only [Cx.with, addFz]
        split
        · next hb => subst hb; rw [hh] at e; cases e
        · exact h1 }

theorem Rel.less {C : Cx} {fz' : Addr → Option Obj} {σ : AS} {s : Shared} (ok : CxOK C) (hf : ∀ b o, C.fz b = some o → fz' b = some o) (r : Rel (C.with fz') σ s) : Rel C σ s := by
  obtain ⟨_, h, tk, rfl, rh⟩ := r
  exact ⟨ok, h, tk, rfl, rh.less hf⟩

theorem addFz_le {fz : Addr → Option Obj} {it : Addr} {o : Option Obj} (hf : fz it = none) : ∀ b ob, fz b = some ob → addFz fz it o b = some ob := by
  intro b ob e
  unfold addFz
  split
  · next hb => subst hb; rw [hf] at e; cases e
  · exact e

/-- FOR: over what can be gone over; the body never raises -/
theorem AF_for {C : Cx} {E : Value → Shared → Prop} {σ : AS} {x : Str} {px pos : Pos} {iter : Expr} {body orelse : List Stmt} {Q : PF → AS → Prop}
    (h : AV C (eval iter C.env) (fun p σ₁ => C.wr x = true ∧ ∃ Ok En, Iterable C p Ok En ∧ Ok σ₁ ∧ ∀ vs, En vs → ∃ I : Nat → AS → Prop, I 0 σ₁ ∧ (∀ i σ', I i σ' → Ok σ') ∧
      (∀ i v σ' C' E', vs[i]? = some v → I i σ' → Like C C' → AF C' (execs body C'.env) (fun f σ'' => match f with | .next => I (i + 1) σ'' | .cont => I (i + 1) σ'' | .brk => Q .next σ'' | .ret u => Q (.ret u) σ'') E' (σ'.st x v)) ∧
      (∀ σ' E', I vs.length σ' → AF C (execs orelse C.env) Q E' σ')) E σ)
    (hs : ∀ x, foldedSetIterable iter C.env x = pure x := by intro _; rfl) : AF C (exec (.For (.Name x px) iter body orelse pos) C.env) Q E σ := by
  intro s r
  refine wpAny_For (wpAny_mono (h s r) (fun u s₁ ⟨p, σ₁, hu, r₁, hw, Ok, En, hIt, ok₁, rest⟩ => ?_) fun _ _ e => e) hs
  refine hIt σ₁ s₁ u _ _ hu r₁ ok₁ ?_
  intro it h' tk vs St hEn hnew hk st0 W
  obtain ⟨I, I0, IOk, turn, last⟩ := rest vs hEn
  have rh₁ := r₁.heap
  obtain ⟨f1, f2, f3, f4⟩ := rh₁.fresh hnew
  have ok := r.1
  refine codeAny_forLoop (fun n s' => ∃ i σ', n + i = vs.length ∧ I i σ' ∧ Rel C σ' s' ∧ St i s'.heap ∧ σ'.hp it = none) ?_ vs.length ⟨0, σ₁, rfl, I0, r₁.to (rh₁.keeps hk), st0, f4⟩
  rintro n s' ⟨i, σ', hni, hI, r', st, hh⟩
  by_cases hlt : i < vs.length
  · obtain ⟨v, hv⟩ : ∃ v, vs[i]? = some v := ⟨vs[i], by simp [hlt]⟩
    refine W.item i σ' s' _ _ v hv r' (IOk i σ' hI) st ?_
    intro h2 tk2 u2 hvu st2 hext
    have rh2 : RelH C σ' h2 := r'.heap.keepsBut (fun b o hb e => hext b o hb e) f1 f2 f3 hh
    have r2 : Rel C σ' { s' with heap := h2, toks := tk2 } := r'.to rh2
    have r3 := r2.freeze f1 f2 f3 hh
    have hle : ∀ b ob, C.fz b = some ob → addFz C.fz it (h2.get? it) b = some ob := addFz_le f1
    refine wpAny_assign_Name ?_
    refine wpAG (AU_store (C := C.with (addFz C.fz it (h2.get? it))) (Q := fun _ σ'' => σ'' = σ'.st x v) hw hvu rfl _ r3) (fun _ s4 _ σ4 _ r4 e4 => ?_) fun _ _ e => e
    subst e4
    refine wpAG (turn i v σ' (C.with (addFz C.fz it (h2.get? it))) _ hv hI (Like.with hle) s4 r4) (fun f s5 pf σ5 hf r5 hq => ?_) fun _ _ e => e
    have r6 : Rel C σ5 s5 := r5.less ok hle
    cases hf with
    | next =>
      refine ⟨n - 1, by omega, i + 1, σ5, by omega, hq, r6, ?_, ?_⟩
      · refine W.frame _ _ _ st2 fun b hb o e => ?_
        have : b = it := by simpa using hb
        subst this
        exact r5.heap.keep b o (by dsimp only [Cx.with, addFz]; rw [if_pos rfl]; exact e)
      · cases e : σ5.hp it with
        | none => rfl
        | some o =>
          have := (r5.heap.free it o e).1
          obtain ⟨oi, hoi⟩ := W.has _ _ st2
          dsimp only [Cx.with, addFz] at this
          rw [if_pos rfl, hoi] at this; cases this
    | cont =>
      refine ⟨n - 1, by omega, i + 1, σ5, by omega, hq, r6, ?_, ?_⟩
      · refine W.frame _ _ _ st2 fun b hb o e => ?_
        have : b = it := by simpa using hb
        subst this
        exact r5.heap.keep b o (by dsimp only [Cx.with, addFz]; rw [if_pos rfl]; exact e)
      · cases e : σ5.hp it with
        | none => rfl
        | some o =>
          have := (r5.heap.free it o e).1
          obtain ⟨oi, hoi⟩ := W.has _ _ st2
          dsimp only [Cx.with, addFz] at this
          rw [if_pos rfl, hoi] at this; cases this
    | brk => exact ⟨.next, σ5, .next, r6, hq⟩
    | ret hv => exact ⟨_, σ5, .ret hv, r6, hq⟩
  · have hie : i = vs.length := by omega
    subst hie
    refine W.done σ' s' _ _ r' (IOk _ σ' hI) st ?_
    intro h2 tk2 hext
    have rh2 : RelH C σ' h2 := r'.heap.keepsBut (fun b o hb e => hext b o hb e) f1 f2 f3 hh
    exact wpAG (last σ' _ hI _ (r'.to rh2)) (fun f s5 pf σ5 hf r5 hq => ⟨pf, σ5, hf, r5, hq⟩) fun _ _ e => e

/-- WHILE, by a measure; the body never raises -/
theorem AF_while {C : Cx} {E : Value → Shared → Prop} {σ : AS} {test : Expr} {body orelse : List Stmt} {pos : Pos} {Q : PF → AS → Prop} (I : Nat → AS → Prop) (n : Nat) (h0 : I n σ)
    (turn : ∀ n σ' E', I n σ' → AB C (isTrue test C.env (eval test C.env)) (fun b σ₁ => if b = true then
        AF C (execs body C.env) (fun f σ₂ => match f with | .next => ∃ m, m < n ∧ I m σ₂ | .cont => ∃ m, m < n ∧ I m σ₂ | .brk => Q .next σ₂ | .ret u => Q (.ret u) σ₂) E' σ₁
      else AF C (execs orelse C.env) Q E' σ₁) E' σ') : AF C (exec (.While test body orelse pos) C.env) Q E σ := by
  intro s r
  refine wpAny_While (codeAny_whileLoop (fun n s' => ∃ σ', I n σ' ∧ Rel C σ' s') ?_ n ⟨σ, h0, r⟩)
  rintro n s' ⟨σ', hI, r'⟩
  refine wpAG (turn n σ' _ hI s' r') (fun b s₁ b' σ₁ hb r₁ hq => ?_) fun _ _ e => e
  subst hb
  cases b' with
  | true =>
    refine wpAG (hq s₁ r₁) (fun f s₂ pf σ₂ hf r₂ hq => ?_) fun _ _ e => e
    cases hf with
    | next => obtain ⟨m, hm, hI⟩ := hq; exact ⟨m, hm, σ₂, hI, r₂⟩
    | cont => obtain ⟨m, hm, hI⟩ := hq; exact ⟨m, hm, σ₂, hI, r₂⟩
    | brk => exact ⟨.next, σ₂, .next, r₂, hq⟩
    | ret hv => exact ⟨_, σ₂, .ret hv, r₂, hq⟩
  | false => exact wpAG (hq s₁ r₁) (fun f s₂ pf σ₂ hf r₂ hq => ⟨pf, σ₂, hf, r₂, hq⟩) fun _ _ e => e

end Mine

namespace Mine

def plainArgs : List Expr → Bool
  | [] => true
  | .Starred _ _ :: _ => false
  | _ :: r => plainArgs r

theorem starEach_plain {env : Env} : ∀ es : List Expr, plainArgs es = true → starEach es env = (es.map fun e => (false, eval e env))
  | [], _ => rfl
  | e :: es, h => by
    cases e with
    | Starred a b => cases h
    | _ => exact congrArg _ (starEach_plain es h)

theorem backTo_plain {env : Env} {pos : Pos} {es : List Expr} (h : plainArgs es = true) : backTo pos (starEach es env) = es.map fun e => (false, eval e env) := by
  rw [starEach_plain es h]
  unfold backTo
  rw [List.map_map]
  rfl

def AVL (C : Cx) (E : Value → Shared → Prop) : List Expr → (List PV → AS → Prop) → AS → Prop
  | [], Q, σ => Q [] σ
  | e :: es, Q, σ => AV C (eval e C.env) (fun v σ₁ => AVL C E es (fun vs σ₂ => Q (v :: vs) σ₂) σ₁) E σ

section
variable {C : Cx} {E : Value → Shared → Prop} {σ : AS}

theorem AVL_nil {Q : List PV → AS → Prop} (h : Q [] σ) : AVL C E [] Q σ := h
theorem AVL_cons {e : Expr} {es : List Expr} {Q : List PV → AS → Prop} (h : AV C (eval e C.env) (fun v σ₁ => AVL C E es (fun vs σ₂ => Q (v :: vs) σ₂) σ₁) E σ) : AVL C E (e :: es) Q σ := h

theorem AVs_spliced : ∀ (es : List Expr) (Q : List PV → AS → Prop) (σ : AS), AVL C E es Q σ → AVs C (spliced (es.map fun e => (false, eval e C.env))) Q E σ
  | [], Q, σ, h => AG.pure .nil h
  | e :: es, Q, σ, h => by
    intro s r
    show wpAny _ _ (do
      let v ← eval e C.env
      let here ← (pure [v] : Sem (List Value))
      return here ++ (← holding here (spliced (es.map fun e => (false, eval e C.env))))) _ E s
    refine wpAny_bind (wpAG (h s r) (fun v s₁ p σ₁ hv r₁ h₁ => ?_) fun _ _ x => x)
    refine wpAny_bind (wpAny_pure (wpAny_bind (wpAny_holding ?_)))
    exact wpAG (AVs_spliced es _ σ₁ h₁ s₁ r₁) (fun vs s₂ ps σ₂ hvs r₂ h₂ => wpAny_pure ⟨_, σ₂, .cons hv hvs, r₂, h₂⟩) fun _ _ x => x

/-! ## list displays -/
theorem AV_newList {vs : List PV} {ws : List Value} {Q : PV → AS → Prop} (hv : VRs vs ws) (hsz : vs.length ≤ sizeLine) (h : ∀ a, σ.hp a = none → Q (.ref a) (σ.pt a (.list vs))) :
    AV C (newList ws) Q E σ := by
  intro s r
  have rh := r.heap
  refine wpAny_newObj_type ⟨.ref s.heap.objs.size, _, .ref _, r.toH (rh.alloc (heap_size_none _) (fun b o e => Heap.get?_push_of_some _ e) (Heap.get?_push_size _ rfl) (p := .list vs) ⟨ws, 0, rfl, hv⟩), h _ (rh.fresh (heap_size_none _)).2.2.2⟩ ?_
  show ws.toArray.size ≤ sizeLine
  rw [List.size_toArray, hv.length]; exact hsz

theorem AV_list {es : List Expr} {pos : Pos} {Q : PV → AS → Prop} (h : AVL C E es (fun vs σ₁ => vs.length ≤ sizeLine ∧ ∀ a, σ₁.hp a = none → Q (.ref a) (σ₁.pt a (.list vs))) σ)
    (hp : plainArgs es = true := by rfl) : AV C (eval (.List es pos) C.env) Q E σ := by
  intro s r
  show wpAny _ _ (do standAt pos; newList (← spliced (backTo pos (starEach es C.env)))) _ _ s
  refine wpAny_bind (wpAny_standAt (wpAny_bind ?_))
  rw [backTo_plain hp]
  exact wpAny_mono (AVs_spliced es _ σ h s r) (fun ws s₁ ⟨vs, σ₁, hvs, r₁, hsz, h₁⟩ => AV_newList hvs hsz h₁ s₁ r₁) fun _ _ x => x

/-! ## calls -/
def ACall (C : Cx) (f : Value) (vs : List PV) (Q : PV → AS → Prop) (E : Value → Shared → Prop) (σ : AS) : Prop := ∀ us, VRs vs us → AV C (call f us) Q E σ

/-- who keeps the arguments: of no weight here -/
def Keeper0 (C : Cx) (f : Value) : Prop := ∀ σ s (Q : Keeper → Shared → Prop) (E : Value → Shared → Prop), Rel C σ s → Q .machine s → Q .frame s → wpAny (model C.G.prog C.G.w) C.A (keeperOf f) Q E s

theorem keeper_builtin {id : String} : Keeper0 C (.builtin id) := fun _ _ _ _ _ h _ => wpAny_pure h
theorem keeper_type {id : String} : Keeper0 C (.type id) := fun _ _ _ _ _ h _ => wpAny_pure h
theorem keeper_fn {f : Fn} (hf : C.G.isFn f) : Keeper0 C (.ref f.addr) := fun σ s Q E r _ h => by
  obtain ⟨o, pm, cd, doc, c, ob, vs, ho, hd, _⟩ := r.1.ok.fns f hf
  unfold keeperOf
  refine wpAny_bind (wpAny_load (r.heap.keep _ _ (r.1.base _ _ ho)) ?_)
  rw [hd]
  exact wpAny_pure h

theorem evalArgs_list {M : Model} {A : Around} {s : Shared} {f : Value} (ts : List (Sem Value)) {Q : Args → Shared → Prop}
    (h : wpAny M A (spliced (ts.map fun t => (false, t))) (fun vs s' => Q ⟨vs, []⟩ s') E s) : wpAny M A (evalArgs f true (ts.map fun t => (false, t)) []) Q E s := by
  cases ts with
  | nil =>
    unfold evalArgs
    show wpAny M A (spliced [] >>= _) Q E s
    refine wpAny_bind (wpAny_mono h (fun vs s' h' => ?_) fun _ _ x => x)
    refine wpAny_holding ?_
    exact wpAny_bind (wpAny_pure (wpAny_bind (wpAny_pure (wpAny_pure h'))))
  | cons t ts => exact Calls.evalArgs_plain h

theorem AV_callWith {pos : Pos} {f : Value} {first : List Value} {es : List Expr} {Q : PV → AS → Prop} (hk : Keeper0 C f) (hp : plainArgs es = true)
    (h : AVL C E es (fun vs σ₁ => ∀ us, VRs vs us → AV C (call f (first ++ us)) Q E σ₁) σ) : AV C (callWith pos f first (backTo pos (starEach es C.env)) []) Q E σ := by
  intro s r
  rw [backTo_plain hp]
  unfold callWith
  have e1 : (es.map fun e => (false, eval e C.env)) = ((es.map fun e => eval e C.env).map fun t => (false, t)) := by rw [List.map_map]; rfl
  refine wpAny_bind (wpAny_holding ?_)
  rw [e1]
  refine evalArgs_list _ ?_
  rw [← e1]
  refine wpAG (AVs_spliced es _ σ h s r) (fun us s₁ vs σ₁ hvs r₁ h₁ => ?_) fun _ _ x => x
  have hany : ((es.map fun e => (false, eval e C.env)).any fun x => x.1) = false := by simp
  have fin : wpAny (model C.G.prog C.G.w) C.A (call f (first ++ us)) (fun v s₂ => wpAny (model C.G.prog C.G.w) C.A (holding [v] point >>= fun _ => pure v) (fun a s' => ∃ b σ', VR b a ∧ Rel C σ' s' ∧ Q b σ') E s₂) E s₁ :=
    wpAny_mono (h₁ us hvs s₁ r₁) (fun v s₂ h₂ => wpAny_bind (wpAny_holding (wpAny_point (wpAny_pure h₂)))) fun _ _ x => x
  refine wpAny_bind (wpAny_standAt ?_)
  rw [hany]
  refine wpAny_bind (hk σ₁ s₁ _ _ r₁ ?_ ?_)
  · exact wpAny_bind fin
  · show wpAny _ _ (if (List.map (fun e => (false, eval e C.env)) es).length + 2 * 0 > 30 then (call f (first ++ us) >>= fun r => holding [r] point >>= fun _ => pure r)
      else (callMarked plainCall f (first ++ us) [] >>= fun r => holding [r] point >>= fun _ => pure r)) _ _ _
    split
    · exact wpAny_bind fin
    · refine wpAny_bind ?_
      exact fun Γ p hΓ => by
        show Sem.wp _ _ ((call f (first ++ us)).keep [plainCall]) _ _ p s₁
        rw [Sem.wp_keep]
        exact fin Γ p hΓ

/-- a call of a name -/
theorem AV_call {x : Str} {p pos : Pos} {es : List Expr} {Q : PV → AS → Prop}
    (h : AV C (eval (.Name x p) C.env) (fun fv σ₁ => ∃ f, fv = .val f ∧ Keeper0 C f ∧ AVL C E es (fun vs σ₂ => ACall C f vs Q E σ₂) σ₁) E σ) (hp : plainArgs es = true := by rfl) :
    AV C (eval (.Call (.Name x p) es [] pos) C.env) Q E σ := by
  intro s r
  refine wpAny_Call_NameR (wpAny_mono (h s r) (fun f s₁ ⟨fv, σ₁, hv, r₁, f', e, hk, h₁⟩ => ?_) fun _ _ x => x)
  subst e
  cases hv
  exact AV_callWith (first := []) hk hp h₁ s₁ r₁

/-- a call of a method: what getMethod gives is a built-in and the object -/
def AMeth (C : Cx) (p : PV) (name : Str) (pl : Sem Bool) (id : String) (σ : AS) : Prop :=
  ∀ u, VR p u → ∀ s, Rel C σ s → ∀ (Q : Value × List Value → Shared → Prop) (E : Value → Shared → Prop), Q (.builtin id, [u]) s → wpAny (model C.G.prog C.G.w) C.A (getMethod u name pl) Q E s

theorem AV_method {o : Expr} {name : Str} {apos pos : Pos} {es : List Expr} {pl : Sem Bool} {Q : PV → AS → Prop}
    (h : AV C (eval o C.env) (fun p σ₁ => ∃ id, AMeth C p name pl id σ₁ ∧ AVL C E es (fun vs σ₂ => ACall C (.builtin id) (p :: vs) Q E σ₂) σ₁) E σ)
    (he : eval (.Call (.Attribute o name apos) es [] pos) C.env = (do
      let ov ← eval o C.env
      standAt apos.atName
      let (f, first) ← holding [ov] (getMethod ov name pl)
      callWith pos f first (backTo pos (starEach es C.env)) [])) (hp : plainArgs es = true := by rfl) :
    AV C (eval (.Call (.Attribute o name apos) es [] pos) C.env) Q E σ := by
  intro s r
  refine MethodCall_ (wpAny_mono (h s r) (fun u s₁ ⟨q, σ₁, hv, r₁, id, hm, h₁⟩ => ?_) fun _ _ x => x) he
  refine hm u hv s₁ r₁ _ _ ?_
  refine AV_callWith (first := [u]) keeper_builtin hp ?_ s₁ r₁
  have : ∀ (es : List Expr) (Q₁ Q₂ : List PV → AS → Prop) (σ : AS), (∀ vs σ, Q₁ vs σ → Q₂ vs σ) → AVL C E es Q₁ σ → AVL C E es Q₂ σ := by
    intro es
    induction es with
    | nil => intro Q₁ Q₂ σ hq h; exact hq _ _ h
    | cons e es ih => intro Q₁ Q₂ σ hq h; exact AG.mono h fun v σ₁ h₁ => ih _ _ _ (fun vs σ₂ => hq _ _) h₁
  exact this es _ _ _ (fun vs σ₂ h₂ us hus => h₂ (u :: us) (.cons hv hus)) h₁

end
end Mine

namespace Mine

def nums (xs : List Int) : List PV := xs.map PV.int
@[simp] theorem nums_length (xs : List Int) : (nums xs).length = xs.length := by simp [nums]
@[simp] theorem nums_nil : nums [] = [] := rfl
@[simp] theorem nums_cons (x : Int) (xs : List Int) : nums (x :: xs) = .int x :: nums xs := rfl
theorem nums_append (xs ys : List Int) : nums (xs ++ ys) = nums xs ++ nums ys := by simp [nums]
theorem nums_take (xs : List Int) (n : Nat) : (nums xs).take n = nums (xs.take n) := by simp [nums, List.map_take]
theorem nums_drop (xs : List Int) (n : Nat) : (nums xs).drop n = nums (xs.drop n) := by simp [nums, List.map_drop]
theorem nums_get? (xs : List Int) (i : Nat) : (nums xs)[i]? = (xs[i]?).map PV.int := by simp [nums]
theorem intsAre_of {xs : List Int} : ∀ {ws : List Value}, VRs (nums xs) ws → IntsAre ws xs := by
  induction xs with
  | nil => intro ws h; cases h; exact .nil
  | cons x xs ih =>
    intro ws h
    cases h with
    | cons h1 h2 => cases h1; exact .cons _ _ (ih h2)

theorem of_intsAre : ∀ {ws : List Value} {xs : List Int}, IntsAre ws xs → VRs (nums xs) ws
  | _, _, .nil => .nil
  | _, _, .cons n t h => .cons (.int n t) (of_intsAre h)

theorem line_ok {n : Nat} (h : n ≤ 1000000) : n ≤ sizeLine := by
  have : sizeLine = 16777216 := by decide
  omega

section
variable {C : Cx} {E : Value → Shared → Prop} {σ : AS}

/-! ## nums -/
theorem B_sub {a b : Int} {Q : PV → AS → Prop} (h : Q (.int (a - b)) σ) : ABin C (binaryOp .Sub) (.int a) (.int b) Q E σ := fun _ _ h1 h2 _ r => by
  cases h1; cases h2; exact sub_int ⟨_, σ, .int _ _, r.tok, h⟩
theorem B_mod {a b : Int} {Q : PV → AS → Prop} (hb : b ≠ 0) (h : Q (.int (a.fmod b)) σ) : ABin C (binaryOp .Mod) (.int a) (.int b) Q E σ := fun _ _ h1 h2 _ r => by
  cases h1; cases h2; exact mod_int' hb ⟨_, σ, .int _ _, r.tok, h⟩
theorem B_div {a b : Int} {Q : PV → AS → Prop} (hb : b ≠ 0) (hs : b.natAbs < 1073741824) (h : Q (.int (a.fdiv b)) σ) : ABin C (binaryOp .FloorDiv) (.int a) (.int b) Q E σ := fun _ _ h1 h2 _ r => by
  cases h1; cases h2; exact floordiv_int hb ⟨_, σ, .int _ _, r.tok, h⟩ (.inl (PyProof.noPylong_small hs))
theorem B_neg {a : Int} {Q : PV → AS → Prop} (h : Q (.int (-a)) σ) : AUn C (unaryOp .USub) (.int a) Q E σ := fun _ h1 _ r => by
  cases h1; exact P.neg_int ⟨_, σ, .int _ _, r.tok, h⟩
theorem B_eqi {a b : Int} {Q : PV → AS → Prop} (h : Q (.bool (a == b)) σ) : ABin C (compareOp .Eq) (.int a) (.int b) Q E σ := fun _ _ h1 h2 _ r => by
  cases h1; cases h2; exact eq_int ⟨_, σ, .bool _, r, h⟩
theorem B_nei {a b : Int} {Q : PV → AS → Prop} (h : Q (.bool (a != b)) σ) : ABin C (compareOp .NotEq) (.int a) (.int b) Q E σ := fun _ _ h1 h2 _ r => by
  cases h1; cases h2; exact ne_int ⟨_, σ, .bool _, r, h⟩
theorem B_lei {a b : Int} {Q : PV → AS → Prop} (h : Q (.bool (decide (a ≤ b))) σ) : ABin C (compareOp .LtE) (.int a) (.int b) Q E σ := fun _ _ h1 h2 _ r => by
  cases h1; cases h2; exact le_int ⟨_, σ, .bool _, r, h⟩

def PV.isNone : PV → Bool
  | .none => true
  | .val v => v == .none
  | _ => false
theorem B_isNone {p : PV} {Q : PV → AS → Prop} (h : Q (.bool p.isNone) σ) : ABin C (compareOp .Is) p .none Q E σ := fun _ _ h1 h2 _ r => by
  cases h2
  refine is_none ⟨_, σ, ?_, r, h⟩
  cases h1 <;> exact .bool _

/-! ## items -/
def ASub (C : Cx) (value slice : Expr) (p q : PV) (Q : PV → AS → Prop) (E : Value → Shared → Prop) (σ : AS) : Prop := ∀ a b, VR p a → VR q b → AV C (subscriptTail value slice a b) Q E σ

theorem AV_subscript {value slice : Expr} {pos : Pos} {Q : PV → AS → Prop} (h : AV C (eval value C.env) (fun p σ₁ => AV C (eval slice C.env) (fun q σ₂ => ASub C value slice p q Q E σ₂) E σ₁) E σ) :
    AV C (eval (.Subscript value slice pos) C.env) Q E σ := fun s r =>
  Subscript_ (wpAG (h s r) (fun a s₁ _ _ h1 h2 h3 => wpAG (h3 s₁ h2) (fun b s₂ _ _ k1 k2 k3 => k3 a b h1 k1 s₂ k2) fun _ _ e => e) fun _ _ e => e)

theorem S_get {value slice : Expr} {l : Addr} {vs : List PV} {k : Int} {v : PV} {Q : PV → AS → Prop} (hl : σ.hp l = some (.list vs)) (h0 : 0 ≤ k) (hfit : k < 2 ^ 63) (hk : vs[k.toNat]? = some v) (h : Q v σ)
    (hs : ∀ t, subscripted slice false (.ref l) (.int k t) = operate [.ref l, .int k t] (getItem (.ref l) (.int k t)) := by intro _; rfl) : ASub C value slice (.ref l) (.int k) Q E σ := fun _ _ h1 h2 s r => by
  cases h1; cases h2
  obtain ⟨ob, ho, hr⟩ := r.heap.obj l _ hl
  obtain ⟨ws, hw, hv⟩ := isList_of ho hr
  obtain ⟨u, hu, hvu⟩ := hv.get _ v hk
  exact tail_any hw.typeIs slot_list_getitem.lookup (wpAny_getItem_list hw h0 hfit (by simpa using hu) ⟨v, σ, hvu, r, h⟩) (hs _)

theorem S_neg {value slice : Expr} {l : Addr} {vs : List PV} {k : Int} {v : PV} {Q : PV → AS → Prop} (hl : σ.hp l = some (.list vs)) (h0 : k < 0) (h1 : -(vs.length : Int) ≤ k) (hfit : -2 ^ 63 ≤ k)
    (hk : vs[(k + vs.length).toNat]? = some v) (h : Q v σ)
    (hs : ∀ t, subscripted slice false (.ref l) (.int k t) = operate [.ref l, .int k t] (getItem (.ref l) (.int k t)) := by intro _; rfl) : ASub C value slice (.ref l) (.int k) Q E σ := fun _ _ e1 e2 s r => by
  cases e1; cases e2
  obtain ⟨ob, ho, hr⟩ := r.heap.obj l _ hl
  obtain ⟨ws, hw, hv⟩ := isList_of ho hr
  obtain ⟨u, hu, hvu⟩ := hv.get _ v hk
  have e : ws.toArray.size = vs.length := by simp [hv.length]
  exact tail_any hw.typeIs slot_list_getitem.lookup (wpAny_getItem_list_neg hw h0 (by rw [e]; exact h1) hfit (by rw [e]; simpa using hu) ⟨v, σ, hvu, r, h⟩) (hs _)

/-! ## slices -/
inductive PartR : PV → Option Int → Prop where
  | none : PartR .none none
  | int (i : Int) : PartR (.int i) (some i)
theorem PartR.is {p : PV} {o : Option Int} {u : Value} (h : PartR p o) (hv : VR p u) : IsPart u o := by
  cases h with
  | none => cases hv; exact .none
  | int i => cases hv; exact .int i _

def pickP (vs : List PV) : Option Int → Option Int → List PV
  | none, none => vs
  | some a, none => vs.drop a.toNat
  | none, some b => vs.take b.toNat
  | some a, some b => (vs.drop a.toNat).take (b.toNat - a.toNat)

def AOpt (C : Cx) (E : Value → Shared → Prop) : Option Expr → (PV → AS → Prop) → AS → Prop
  | none, Q, σ => Q .none σ
  | some e, Q, σ => AV C (eval e C.env) Q E σ
theorem AOpt_none {Q : PV → AS → Prop} (h : Q .none σ) : AOpt C E none Q σ := h
theorem AOpt_some {e : Expr} {Q : PV → AS → Prop} (h : AV C (eval e C.env) Q E σ) : AOpt C E (some e) Q σ := h
theorem AOpt_part {o : Option Expr} {Q : PV → AS → Prop} (h : AOpt C E o Q σ) : AV C (evalPart o C.env) Q E σ := by
  cases o with
  | none => exact AG.pure .none h
  | some e => exact h

theorem pick_of {vs : List PV} {ws : List Value} (hv : VRs vs ws) {lo hi : Option Int} (h0 : ∀ a, lo = some a → 0 ≤ a) (h1 : ∀ b, hi = some b → 0 ≤ b) :
    VRs (pickP vs lo hi) (slicePick ws.toArray lo hi none).toList := by
  cases lo with
  | none =>
    cases hi with
    | none => rw [slicePick_all]; simpa [pickP] using hv
    | some b =>
      obtain ⟨n, rfl⟩ := Int.eq_ofNat_of_zero_le (h1 b rfl)
      rw [slicePick_upto']; simpa [pickP] using hv.take n
  | some a =>
    obtain ⟨m, rfl⟩ := Int.eq_ofNat_of_zero_le (h0 a rfl)
    cases hi with
    | none => rw [slicePick_from']; simpa [pickP] using hv.drop m
    | some b =>
      obtain ⟨n, rfl⟩ := Int.eq_ofNat_of_zero_le (h1 b rfl)
      rw [slicePick_plain]
      have := (hv.drop m).take (n - m)
      simp only [pickP, Int.toNat_natCast, Option.elim, clipAt_nat]
      have e1 : ws.drop (min m ws.toArray.size) = ws.drop m := by
        rcases Nat.le_total m ws.length with h | h
        · rw [show min m ws.toArray.size = m by simp; omega]
        · rw [show min m ws.toArray.size = ws.length by simp; omega, List.drop_length, List.drop_eq_nil_of_le h]
      have e2 : (ws.drop m).take (min n ws.toArray.size - min m ws.toArray.size) = (ws.drop m).take (n - m) := by
        simp only [List.size_toArray]
        rcases Nat.le_total n ws.length with h | h
        · rcases Nat.le_total m ws.length with h' | h'
          · rw [show min n ws.length - min m ws.length = n - m by omega]
          · rw [List.drop_eq_nil_of_le h']; simp
        · rcases Nat.le_total m ws.length with h' | h'
          · rw [List.take_of_length_le (by simp; omega), List.take_of_length_le (by simp; omega)]
          · rw [List.drop_eq_nil_of_le h']; simp
      show VRs _ ((ws.drop (min m ws.toArray.size)).take (min n ws.toArray.size - min m ws.toArray.size))
      rw [e1, e2]
      exact this

/-- what a slice gives, both bounds from 0 up -/
def SliceIs (σ : AS) (o a b : PV) (Q : PV → AS → Prop) : Prop := ∃ l vs lo hi, o = .ref l ∧ σ.hp l = some (.list vs) ∧ PartR a lo ∧ PartR b hi ∧ (∀ a, lo = some a → 0 ≤ a) ∧ (∀ b, hi = some b → 0 ≤ b) ∧
      vs.length ≤ sizeLine ∧ ∀ d, σ.hp d = none → Q (.ref d) (σ.pt d (.list (pickP vs lo hi)))
theorem SliceIs.any {a b : PV} {Q : PV → AS → Prop} {l : Addr} {vs : List PV} {lo hi : Option Int} (hl : σ.hp l = some (.list vs)) (pa : PartR a lo) (pb : PartR b hi) (h0 : ∀ a, lo = some a → 0 ≤ a) (h1 : ∀ b, hi = some b → 0 ≤ b)
    (hsz : vs.length ≤ sizeLine) (h : ∀ d, σ.hp d = none → Q (.ref d) (σ.pt d (.list (pickP vs lo hi)))) : SliceIs σ (.ref l) a b Q := ⟨l, vs, lo, hi, rfl, hl, pa, pb, h0, h1, hsz, h⟩
def pickN (xs : List Int) : Option Int → Option Int → List Int
  | none, none => xs
  | some a, none => xs.drop a.toNat
  | none, some b => xs.take b.toNat
  | some a, some b => (xs.drop a.toNat).take (b.toNat - a.toNat)
theorem pickP_nums (xs : List Int) (lo hi : Option Int) : pickP (nums xs) lo hi = nums (pickN xs lo hi) := by
  cases lo <;> cases hi <;> simp [pickP, pickN, nums_take, nums_drop]
theorem SliceIs.num {a b : PV} {Q : PV → AS → Prop} {l : Addr} {xs : List Int} {lo hi : Option Int} (hl : σ.hp l = some (.list (nums xs))) (pa : PartR a lo) (pb : PartR b hi) (h0 : ∀ a, lo = some a → 0 ≤ a) (h1 : ∀ b, hi = some b → 0 ≤ b)
    (hsz : xs.length ≤ sizeLine) (h : ∀ d, σ.hp d = none → Q (.ref d) (σ.pt d (.list (nums (pickN xs lo hi))))) : SliceIs σ (.ref l) a b Q :=
  .any hl pa pb h0 h1 (by simpa using hsz) fun d hd => by rw [pickP_nums]; exact h d hd

/-- a slice of a list: value[lower:upper] -/
theorem AV_slice {value : Expr} {lower upper : Option Expr} {p pos : Pos} {Q : PV → AS → Prop}
    (h : AV C (eval value C.env) (fun o σ₁ => AOpt C E lower (fun a σ₂ => AOpt C E upper (fun b σ₃ => SliceIs σ₃ o a b Q) σ₂) σ₁) E σ) :
    AV C (eval (.Subscript value (.Slice lower upper none p) pos) C.env) Q E σ := by
  intro s r
  refine Subscript_ (wpAG (h s r) (fun u s₁ o σ₁ hu r₁ h₁ => ?_) fun _ _ e => e)
  refine wpAny_Slice (wpAG (AOpt_part h₁ s₁ r₁) (fun ua s₂ a σ₂ hua r₂ h₂ => wpAG (AOpt_part h₂ s₂ r₂) (fun ub s₃ b σ₃ hub r₃ h₃ => ?_) fun _ _ e => e) fun _ _ e => e)
  refine wpAny_pure ?_
  obtain ⟨l, vs, lo, hi, rfl, hl, pa, pb, h0, h1, hsz, hq⟩ := h₃
  cases hu
  obtain ⟨ob, ho, hr⟩ := r₃.heap.obj l _ hl
  obtain ⟨ws, hw, hv⟩ := isList_of ho hr
  have hw' : (s₃.heap.push { cls := .type "slice", data := .fields #[ua, ub, .none] }).IsList l ws.toArray := hw.push _
  have rh : RelH C σ₃ (s₃.heap.push { cls := .type "slice", data := .fields #[ua, ub, .none] }) := r₃.heap.push _
  refine tail_any (ops := [.ref s₃.heap.objs.size, .ref l]) (T := "list") ?_ slot_list_getitem.lookup (wpAny_getItem_list_slice hw' (Heap.IsSliceOf.new ..) (pa.is hua) (pb.is hub) .none (by simp) ?_ ?_) rfl
  · exact hw'.typeIs
  · refine ⟨.ref _, σ₃.pt _ (.list (pickP vs lo hi)), .ref _, ?_, hq _ (rh.fresh (heap_size_none _)).2.2.2⟩
    refine r₃.toH (rh.alloc (heap_size_none _) (fun b o e => Heap.get?_push_of_some _ e) (Heap.get?_push_size _ rfl) (p := .list (pickP vs lo hi)) ⟨_, 0, ?_, pick_of hv h0 h1⟩)
    rfl
  · rw [List.size_toArray, hv.length]; exact hsz

/-! ## more of lists -/
theorem isL_of {w : World} {h : Heap} {a : Addr} {ob : Obj} {vs : List PV} (ho : h.get? a = some ob) (hr : OR w (.list vs) ob) : ∃ ws n, IsL h a ws.toArray n ∧ VRs vs ws := by
  obtain ⟨ws, n, rfl, hv⟩ := hr
  exact ⟨ws, n, ho, hv⟩

theorem B_addL {l b : Addr} {vs us : List PV} {Q : PV → AS → Prop} (hl : σ.hp l = some (.list vs)) (hb : σ.hp b = some (.list us)) (hsz : vs.length + us.length ≤ sizeLine)
    (h : ∀ d, σ.hp d = none → Q (.ref d) (σ.pt d (.list (vs ++ us)))) : ABin C (binaryOp .Add) (.ref l) (.ref b) Q E σ := fun _ _ h1 h2 s r => by
  cases h1; cases h2
  obtain ⟨ob, ho, hr⟩ := r.heap.obj l _ hl
  obtain ⟨ws, n, hw, hv⟩ := isL_of ho hr
  obtain ⟨ob2, ho2, hr2⟩ := r.heap.obj b _ hb
  obtain ⟨ws2, n2, hw2, hv2⟩ := isL_of ho2 hr2
  refine P.add_list hw hw2 ⟨.ref _, _, .ref _, r.toH (r.heap.alloc (heap_size_none _) (fun b o e => Heap.get?_push_of_some _ e) (Heap.get?_push_size _ rfl) (p := .list (vs ++ us)) ⟨ws ++ ws2, 0, ?_, hv.append hv2⟩), h _ (r.heap.fresh (heap_size_none _)).2.2.2⟩ ?_
  · simp [listO]
  · simpa [hv.length, hv2.length] using hsz

theorem A_len {l : Addr} {vs : List PV} {Q : PV → AS → Prop} (hl : σ.hp l = some (.list vs)) (hsz : vs.length ≤ sizeLine) (h : Q (.int vs.length) σ) : ACall C (.builtin "len") [.ref l] Q E σ := fun us hus s r => by
  cases hus with
  | cons h1 h2 =>
    cases h1; cases h2
    obtain ⟨ob, ho, hr⟩ := r.heap.obj l _ hl
    obtain ⟨ws, hw, hv⟩ := isList_of ho hr
    have e : ws.toArray.size = vs.length := by simp [hv.length]
    have : sizeLine = 16777216 := by decide
    refine Calls.call_len_list hw (by rw [e]; omega) ⟨_, σ, ?_, r.tok, h⟩
    rw [e]; exact .int _ _

theorem T_list {l : Addr} {vs : List PV} {Q : Bool → AS → Prop} (hl : σ.hp l = some (.list vs)) (hsz : vs.length ≤ sizeLine) (h : Q (!vs.isEmpty) σ) : ATr C (.ref l) Q E σ := fun _ h1 s r => by
  cases h1
  obtain ⟨ob, ho, hr⟩ := r.heap.obj l _ hl
  obtain ⟨ws, hw, hv⟩ := isList_of ho hr
  have e : ws.toArray.size = vs.length := by simp [hv.length]
  have : sizeLine = 16777216 := by decide
  refine wpAny_truthy_list hw (by rw [e]; omega) ⟨_, σ, ?_, r.tok, h⟩
  cases hv <;> simp

theorem AB_value {e : Expr} {Q : Bool → AS → Prop} (h : AV C (eval e C.env) (fun p σ₁ => ATr C p Q E σ₁) E σ)
    (he : isTrue e C.env (eval e C.env) = (do let v ← eval e C.env; standAt e.pos; holding [v] (truthy v))) : AB C (isTrue e C.env (eval e C.env)) Q E σ := by
  intro s r
  rw [he]
  exact wpAny_bind (wpAG (h s r) (fun u s₁ p σ₁ hu r₁ h₁ => wpAny_bind (wpAny_standAt (wpAny_holding (h₁ u hu s₁ r₁)))) fun _ _ e => e)

theorem M_append {l : Addr} {vs : List PV} {pl : Sem Bool} (hl : σ.hp l = some (.list vs)) : AMeth C (.ref l) (Str.ofString "append") pl "list.append" σ := fun u hu s r Q E h => by
  cases hu
  obtain ⟨ob, ho, ws, n, rfl, hv⟩ := r.heap.obj l _ hl
  exact Calls.getMethod_list_append ho rfl rfl h

theorem A_append {l : Addr} {vs : List PV} {v : PV} {Q : PV → AS → Prop} (hl : σ.hp l = some (.list vs)) (hsz : vs.length ≤ sizeLine) (h : Q .none (σ.pt l (.list (vs ++ [v])))) :
    ACall C (.builtin "list.append") [.ref l, v] Q E σ := fun us hus s r => by
  cases hus with
  | cons h1 h2 =>
    cases h2 with
    | cons h2 h3 =>
      cases h1; cases h3
      obtain ⟨ob, ho, ws, n, rfl, hv⟩ := r.heap.obj l _ hl
      refine append_at ho (fun h' hs ho' => ⟨.none, _, .none, r.toH (r.heap.change hl hs ho' (p' := .list (vs ++ [v])) ⟨ws ++ [_], n + 1, ?_, hv.snoc h2⟩), h⟩) ?_
      · simp [listO]
      · simpa [hv.length] using hsz

theorem D_head {l : Addr} {v : PV} {vs : List PV} {Q : Unit → AS → Prop} (hl : σ.hp l = some (.list (v :: vs))) (hsz : vs.length < sizeLine) (h : Q () (σ.pt l (.list vs))) :
    ∀ a b, VR (.ref l) a → VR (.int 0) b → AU C (delItem a b) Q E σ := fun _ _ h1 h2 s r => by
  cases h1; cases h2
  obtain ⟨ob, ho, ws, n, rfl, hv⟩ := r.heap.obj l _ hl
  cases hv with
  | cons hv1 hv2 =>
    refine delItem_at ho (k := 0) rfl (by simp [seqIndex?]) (fun h' hs ho' => ⟨(), _, rfl, r.toH (r.heap.change hl hs ho' (p' := .list vs) ⟨_, n + 1, ?_, hv2⟩), h⟩) ?_
    · simp [listO]
    · simp [hv2.length]; omega

theorem AF_del {o i : Expr} {p pos : Pos} {Q : PF → AS → Prop} (h : AV C (eval o C.env) (fun p σ₁ => AV C (eval i C.env) (fun q σ₂ => ∀ a b, VR p a → VR q b → AU C (delItem a b) (fun _ σ₃ => Q .next σ₃) E σ₂) E σ₁) E σ) :
    AF C (exec (.Delete [.Subscript o i p] pos) C.env) Q E σ := by
  intro s r
  rw [arm_exec_Delete]
  refine wpAny_bind (wpAny_standAt (wpAny_bind ?_))
  rw [arm_deleteEach_cons]
  refine wpAny_bind ?_
  rw [arm_delete_Subscript]
  refine wpAny_bind (wpAG (h s r) (fun a s₁ _ _ ha r₁ h₁ => wpAny_bind (wpAny_holding (wpAG (h₁ s₁ r₁) (fun b s₂ _ _ hb r₂ h₂ => ?_) fun _ _ e => e))) fun _ _ e => e)
  refine wpAny_bind (wpAny_standAt (wpAny_bind (wpAny_holding (wpAG (h₂ a b ha hb s₂ r₂) (fun _ s₃ _ σ₃ _ r₃ h₃ => ?_) fun _ _ e => e))))
  refine wpAny_release ?_
  exact wpAny_pure (wpAny_pure ⟨.next, σ₃, .next, r₃, h₃⟩)

def SetIs (σ : AS) (v p q : PV) (Q : AS → Prop) : Prop := ∃ l vs k, p = .ref l ∧ q = .int k ∧ σ.hp l = some (.list vs) ∧ 0 ≤ k ∧ k < vs.length ∧ vs.length ≤ sizeLine ∧ Q (σ.pt l (.list (vs.set k.toNat v)))
theorem SetIs.mk {v : PV} {Q : AS → Prop} {l : Addr} {vs : List PV} {k : Int} (hl : σ.hp l = some (.list vs)) (h0 : 0 ≤ k) (h1 : k < vs.length) (hsz : vs.length ≤ sizeLine) (h : Q (σ.pt l (.list (vs.set k.toNat v)))) : SetIs σ v (.ref l) (.int k) Q :=
  ⟨l, vs, k, rfl, rfl, hl, h0, h1, hsz, h⟩
theorem AF_setItem {o i value : Expr} {p pos : Pos} {Q : PF → AS → Prop}
    (h : AV C (eval value C.env) (fun v σ₁ => AV C (eval o C.env) (fun p σ₂ => AV C (eval i C.env) (fun q σ₃ => SetIs σ₃ v p q (fun σ₄ => Q .next σ₄)) E σ₂) E σ₁) E σ) (hs : swapsWith value (some (.Subscript o i p)) pos.line C.env = pure false := by rfl) :
    AF C (exec (.Assign [.Subscript o i p] value pos) C.env) Q E σ := by
  intro s r
  refine wpAny_Assign_Subscript (wpAG (h s r) (fun u s₁ v σ₁ hu r₁ h₁ => wpAG (h₁ s₁ r₁) (fun a s₂ _ σ₂ ha r₂ h₂ => wpAG (h₂ s₂ r₂) (fun b s₃ _ σ₃ hb r₃ h₃ => ?_) fun _ _ e => e) fun _ _ e => e) fun _ _ e => e) hs
  obtain ⟨l, vs, k, rfl, rfl, hl, h0, hk, hsz, hq⟩ := h₃
  cases ha; cases hb
  obtain ⟨ob, ho, ws, n, rfl, hv⟩ := r₃.heap.obj l _ hl
  have hlen := hv.length
  have hL : sizeLine = 16777216 := by decide
  refine ki_setAt (n := n) ho h0 (by omega) (by simp [hlen]; exact hk) ⟨.next, _, .next, r₃.toH (r₃.heap.change hl (Heap.SameBut.update ..) (Heap.get?_update_self _ ho rfl) (p' := .list (vs.set k.toNat v)) ⟨ws.set k.toNat u, n, ?_, hv.set hu _⟩), hq⟩
  simp [listO, Obj.mapSeq]

theorem layable_small {xs : List Int} (h : ∀ x ∈ xs, 0 ≤ x ∧ x < 64) (hl : xs.length ≤ 1000) : PyData.layable0 (.list (xs.map .int)) = true := by
  have h1 : ∀ l : List Int, PyData.canLayAll0 (l.map .int) = true := by
    intro l; induction l with
    | nil => rfl
    | cons x l ih => simp [PyData.canLayAll0, PyData.canLay0, ih]
  have h2 : ∀ l : List Int, PyData.depthAll (l.map .int) = 0 := by
    intro l; induction l with
    | nil => rfl
    | cons x l ih => simp [PyData.depthAll, PyData.depth, ih]
  have h3 : ∀ l : List Int, (∀ x ∈ l, 0 ≤ x ∧ x < 64) → PyData.weightAll (l.map .int) ≤ 8 * l.length := by
    intro l; induction l with
    | nil => intro _; simp [PyData.weightAll]
    | cons x l ih =>
      intro hx
      have := ih fun y hy => hx y (.tail _ hy)
      have hx' := hx x (.head _)
      have hw : PyData.weight (.int x) ≤ 6 := by
        simp only [PyData.weight]
        split
        · omega
        · have : x.natAbs < 64 := by omega
          have h0 : x.natAbs ≠ 0 := by
            intro e; have : x = 0 := by omega
            simp_all
          have := Nat.log2_lt (n := x.natAbs) (k := 6) h0
          omega
      simp only [List.map_cons, PyData.weightAll, List.length_cons]
      omega
  simp only [PyData.layable0, PyData.canLay0, PyData.depth, PyData.weight, h1, h2, Bool.true_and, Bool.and_eq_true, decide_eq_true_eq]
  have := h3 xs h
  exact ⟨by simp, decide_eq_true <| Nat.le_trans this (Nat.le_trans (Nat.mul_le_mul_left 8 hl) (by decide : 8 * 1000 ≤ 2 ^ 20))⟩

theorem M_index {l : Addr} {vs : List PV} {pl : Sem Bool} (hl : σ.hp l = some (.list vs)) : AMeth C (.ref l) (Str.ofString "index") pl "list.index" σ := fun u hu s r Q E h => by
  cases hu
  obtain ⟨ob, ho, ws, n, rfl, hv⟩ := r.heap.obj l _ hl
  exact getMethod_list_of PySem.F.slot_list_index (by kernel_rfl) ⟨_, ho, rfl, n, rfl⟩ ⟨_, ho, rfl⟩ h

theorem A_index {l : Addr} {xs : List Int} {x : Int} {Q : PV → AS → Prop} (hl : σ.hp l = some (.list (nums xs))) (hx : ∀ x ∈ xs, 0 ≤ x ∧ x < 64) (hsz : xs.length ≤ 1000) (hm : x ∈ xs) (h : Q (.int (xs.idxOf x : Nat)) σ) :
    ACall C (.builtin "list.index") [.ref l, .int x] Q E σ := fun us hus s r => by
  cases hus with
  | cons h1 h2 =>
    cases h2 with
    | cons h2 h3 =>
      cases h1; cases h2; cases h3
      obtain ⟨ob, ho, ws, n, rfl, hv⟩ := r.heap.obj l _ hl
      exact index_list_ints ⟨_, ho, rfl, n, rfl⟩ (intsAre_of hv) (layable_small hx hsz) hm ⟨_, σ, .int _ _, r.tok, h⟩

theorem any_isInt {xs : List Int} {x : Int} : ∀ {ws : List Value}, VRs (nums xs) ws → ws.any (fun y => match y with | .int a _ => a == x | _ => false) = xs.contains x := by
  induction xs with
  | nil => intro ws h; cases h; rfl
  | cons a xs ih =>
    intro ws h
    cases h with
    | cons h1 h2 =>
      cases h1
      simp only [List.any_cons, List.contains_cons, ih h2]
      congr 1
      exact Bool.beq_comm ..

theorem eqAt_isInt {xs : List Int} {x : Int} {t : Tok} {A : Around} {s : Shared} : ∀ {ws : List Value}, VRs (nums xs) ws → ∀ y ∈ ws, SeqAt.EqAt A s y (.int x t) (match y with | .int a _ => a == x | _ => false) := by
  induction xs with
  | nil => intro ws h y hy; cases h; cases hy
  | cons a xs ih =>
    intro ws h y hy
    cases h with
    | cons h1 h2 =>
      cases hy with
      | head => cases h1; exact SeqAt.EqAt.int_int a _ x t
      | tail _ hy => exact ih h2 y hy

theorem B_in {l : Addr} {xs : List Int} {x : Int} {Q : PV → AS → Prop} (hl : σ.hp l = some (.list (nums xs))) (h : Q (.bool (xs.contains x)) σ) : ABin C (compareOp .In) (.int x) (.ref l) Q E σ := fun _ _ h1 h2 s r => by
  cases h1; cases h2
  obtain ⟨ob, ho, ws, n, rfl, hv⟩ := r.heap.obj l _ hl
  refine SeqAt.in_listAt (items := ws.toArray) (fun y => match y with | .int a _ => a == x | _ => false) ⟨_, ho, rfl, n, rfl⟩ (fun y hy => eqAt_isInt hv y (by simpa using hy)) ⟨_, σ, ?_, r, h⟩
  rw [List.any_toArray, any_isInt hv]; exact .bool _
theorem B_notIn {l : Addr} {xs : List Int} {x : Int} {Q : PV → AS → Prop} (hl : σ.hp l = some (.list (nums xs))) (h : Q (.bool (!xs.contains x)) σ) : ABin C (compareOp .NotIn) (.int x) (.ref l) Q E σ := fun _ _ h1 h2 s r => by
  cases h1; cases h2
  obtain ⟨ob, ho, ws, n, rfl, hv⟩ := r.heap.obj l _ hl
  refine SeqAt.notIn_listAt (items := ws.toArray) (fun y => match y with | .int a _ => a == x | _ => false) ⟨_, ho, rfl, n, rfl⟩ (fun y hy => eqAt_isInt hv y (by simpa using hy)) ⟨_, σ, ?_, r, h⟩
  rw [List.any_toArray, any_isInt hv]; exact .bool _

theorem A_range2 {a b : Int} {Q : PV → AS → Prop} (h : ∀ d, σ.hp d = none → Q (.ref d) (σ.pt d (.range a b))) : ACall C (.type "range") [.int a, .int b] Q E σ := fun us hus s r => by
  cases hus with
  | cons h1 h2 =>
    cases h2 with
    | cons h2 h3 =>
      cases h1; cases h2; cases h3
      exact call_range_2 ⟨.ref _, _, .ref _, r.to (r.heap.alloc (heap_size_none _) (fun b o e => Heap.get?_push_of_some _ e) (Heap.get?_push_size _ rfl) (p := .range a b) ⟨_, _, _, rfl⟩), h _ (r.heap.fresh (heap_size_none _)).2.2.2⟩
theorem A_range1 {b : Int} {Q : PV → AS → Prop} (h : ∀ d, σ.hp d = none → Q (.ref d) (σ.pt d (.range 0 b))) : ACall C (.type "range") [.int b] Q E σ := fun us hus s r => by
  cases hus with
  | cons h1 h2 =>
    cases h1; cases h2
    exact call_range_1 ⟨.ref _, _, .ref _, r.to (r.heap.alloc (heap_size_none _) (fun b o e => Heap.get?_push_of_some _ e) (Heap.get?_push_size _ rfl) (p := .range 0 b) ⟨_, _, _, rfl⟩), h _ (r.heap.fresh (heap_size_none _)).2.2.2⟩

theorem A_listCopy {l : Addr} {vs : List PV} {Q : PV → AS → Prop} (hl : σ.hp l = some (.list vs)) (hsz : vs.length ≤ sizeLine) (h : ∀ d, σ.hp d = none → Q (.ref d) (σ.pt d (.list vs))) :
    ACall C (.type "list") [.ref l] Q E σ := fun us hus s r => by
  cases hus with
  | cons h1 h2 =>
    cases h1; cases h2
    obtain ⟨ob, ho, ws, n, rfl, hv⟩ := r.heap.obj l _ hl
    exact call_list_seq (hsz := by simpa [hv.length] using hsz) l (.inl rfl) ho rfl rfl fun h' c' hk hD => ⟨.ref _, _, .ref _, r.toH (r.heap.alloc (heap_size_none _) hk hD (p := .list vs) ⟨ws, c', rfl, hv⟩), h _ (r.heap.fresh (heap_size_none _)).2.2.2⟩

end
end Mine

namespace Mine

/-- all that lies below L and is not the abstract heap's is kept still -/
def frz (h : Heap) (hp : Addr → Option PO) (L : Addr) : Addr → Option Obj := fun a => if a < L then (match hp a with | none => h.get? a | some _ => none) else none

theorem frz_ge {h : Heap} {hp : Addr → Option PO} {L a : Addr} (ha : L ≤ a) : frz h hp L a = none := by
  unfold frz; rw [if_neg (Nat.not_lt.mpr ha)]
theorem frz_of {h : Heap} {hp : Addr → Option PO} {L a : Addr} {o : Obj} (ha : a < L) (hn : hp a = none) (ho : h.get? a = some o) : frz h hp L a = some o := by
  unfold frz; rw [if_pos ha, hn]; exact ho
theorem frz_some {h : Heap} {hp : Addr → Option PO} {L a : Addr} {o : Obj} (e : frz h hp L a = some o) : a < L ∧ hp a = none ∧ h.get? a = some o := by
  unfold frz at e
  split at e
  · next hlt =>
    split at e
    · next hn => exact ⟨hlt, hn, e⟩
    · cases e
  · cases e

structure CBelow (C : Cx) (L : Addr) : Prop where
  fz : ∀ b o, C.fz b = some o → b < L
  loc : C.env.locals < L
  cell : ∀ x c, C.env.cells.lookup x = some c → c < L

theorem RelH.below {C : Cx} {σ : AS} {h : Heap} (r : RelH C σ h) : CBelow C h.objs.size where
  fz := fun b o e => Heap.lt_size (r.keep b o e)
  loc := let ⟨m, hm, _⟩ := r.ns; hm.lt
  cell := fun x c e => let ⟨v, hv⟩ := r.cells x c e; hv.lt
theorem RelH.notHp {C : Cx} {σ : AS} {h : Heap} (r : RelH C σ h) : (∀ b o, C.fz b = some o → σ.hp b = none) ∧ σ.hp C.env.locals = none ∧ ∀ x c, C.env.cells.lookup x = some c → σ.hp c = none := by
  refine ⟨fun b o e => ?_, ?_, fun x c e => ?_⟩
  · cases h' : σ.hp b with
    | none => rfl
    | some p => rw [(r.free b p h').1] at e; cases e
  · cases h' : σ.hp C.env.locals with
    | none => rfl
    | some p => exact absurd rfl (r.free _ p h').2.1
  · cases h' : σ.hp c with
    | none => rfl
    | some p => exact absurd rfl ((r.free _ p h').2.2 x c e)

/-- back from a frame to the one it was made from -/
theorem RelH.back {C C' : Cx} {σ σ' : AS} {h h' : Heap} {L : Addr} (r : RelH C σ h) (b : CBelow C L) (hf : C'.fz = frz h σ.hp L) (hG : C'.G = C.G) (r' : RelH C' σ' h') : RelH C ⟨σ.loc, σ'.hp⟩ h' := by
  obtain ⟨n1, n2, n3⟩ := r.notHp
  have keep : ∀ a o, a < L → σ.hp a = none → h.get? a = some o → h'.get? a = some o := fun a o ha hn ho => r'.keep a o (by rw [hf]; exact frz_of ha hn ho)
  exact {
    keep := fun a o e => keep a o (b.fz a o e) (n1 a o e) (r.keep a o e)
    ns := let ⟨m, ⟨o, es, ep, ho, hr⟩, hx⟩ := r.ns; ⟨m, ⟨o, es, ep, keep _ _ b.loc n2 ho, hr⟩, hx⟩
    cell := fun x v e k => let ⟨c, u, hc, ⟨o, ho, hd⟩, hv⟩ := r.cell x v e k; ⟨c, u, hc, ⟨o, keep _ _ (b.cell x c hc) (n3 x c hc) ho, hd⟩, hv⟩
    kinds := r.kinds
    cells := fun x c e => let ⟨v, o, ho, hd⟩ := r.cells x c e; ⟨v, o, keep _ _ (b.cell x c e) (n3 x c e) ho, hd⟩
    obj := fun a o e => by rw [← hG]; exact r'.obj a o e
    free := fun a o e => by
      have h1 := (r'.free a o e).1
      rw [hf] at h1
      by_cases hlt : a < L
      · unfold frz at h1
        rw [if_pos hlt] at h1
        split at h1
        · have := r.fresh h1; exact ⟨this.1, this.2.1, this.2.2.1⟩
        · next p hp => exact r.free a p hp
      · refine ⟨?_, ?_, ?_⟩
        · cases e' : C.fz a with
          | none => rfl
          | some ob => exact absurd (b.fz a ob e') hlt
        · rintro rfl; exact hlt b.loc
        · rintro x c e' rfl; exact hlt (b.cell x _ e') }

/-! ## calls of the text's own functions -/
def kdOf (names : List (Str × NameKind)) (x : Str) : Option NameKind := names.lookup x
def wrOf (names : List (Str × NameKind)) (x : Str) : Bool := names.lookup x == some .local || names.lookup x == some .cell
def glOf (names : List (Str × NameKind)) (x : Str) : Bool := names.lookup x == some .globalImplicit
def cvOf (names : List (Str × NameKind)) (x : Str) : Bool := names.lookup x == some .cell

/-- the context of a called function's body -/
structure FnCx (C : Cx) (f : Fn) (C' : Cx) : Prop where
  G : C'.G = C.G
  wr : C'.wr = wrOf f.scope.names
  gl : C'.gl = glOf f.scope.names
  cv : C'.cv = cvOf f.scope.names
  bud : C'.bud + 1 = C.bud
  hd : C'.hd = C.hd
  scope : C'.env.scope = f.scope
  A : C'.A = C.A.deeper C'.env
  fr : C'.env.frame = some C'.env.locals

def bindP : List (Str × PV) → (Str → Option PV) → Str → Option PV
  | [], m => m
  | (n, v) :: r, m => bindP r (updS m n v)

theorem bindP_rel {kd : Str → Option NameKind} : ∀ (ns : List Str) (ps : List PV) (us : List Value) (mp : Str → Option PV) (ml mc : Str → Option Value), VRs ps us →
    (∀ x p, mp x = some p → (kd x = some .local → ∃ u, ml x = some u ∧ VR p u) ∧ (kd x ≠ some .local → ∃ u, mc x = some u ∧ VR p u)) →
    ∀ x p, bindP (ns.zip ps) mp x = some p → (kd x = some .local → ∃ u, bindL kd (ns.zip us) ml x = some u ∧ VR p u) ∧ (kd x ≠ some .local → ∃ u, bindC kd (ns.zip us) mc x = some u ∧ VR p u)
  | [], ps, us, mp, ml, mc, _, h, x, p, e => h x p e
  | n :: ns, _, _, mp, ml, mc, .nil, h, x, p, e => h x p e
  | n :: ns, _, _, mp, ml, mc, .cons hv hvs, h, x, p, e => by
    simp only [List.zip_cons_cons, bindP, bindL, bindC] at e ⊢
    refine bindP_rel ns _ _ _ _ _ hvs ?_ x p e
    intro y q hy
    unfold updS at hy
    by_cases hk : kd n = some .local
    · rw [if_pos hk, if_pos hk]
      split at hy
      · next hyn =>
        cases hy
        subst hyn
        exact ⟨fun _ => ⟨_, by rw [if_pos rfl], hv⟩, fun h' => absurd hk h'⟩
      · next hyn =>
        refine ⟨fun h' => ?_, (h y q hy).2⟩
        rw [if_neg hyn]; exact (h y q hy).1 h'
    · rw [if_neg hk, if_neg hk]
      split at hy
      · next hyn =>
        cases hy
        subst hyn
        exact ⟨fun h' => absurd h' hk, fun _ => ⟨_, by rw [if_pos rfl], hv⟩⟩
      · next hyn =>
        refine ⟨(h y q hy).1, fun h' => ?_⟩
        rw [if_neg hyn]; exact (h y q hy).2 h'

theorem bindP_names : ∀ (ns : List Str) (ps : List PV) (mp : Str → Option PV) (x : Str) (p : PV), bindP (ns.zip ps) mp x = some p → x ∈ ns ∨ mp x = some p
  | [], ps, mp, x, p, e => .inr e
  | n :: ns, [], mp, x, p, e => .inr e
  | n :: ns, q :: ps, mp, x, p, e => by
    simp only [List.zip_cons_cons, bindP] at e
    rcases bindP_names ns ps _ x p e with h | h
    · exact .inl (.tail _ h)
    · unfold updS at h
      split at h
      · next hx => subst hx; exact .inl (.head _)
      · exact .inr h

def PF.out : PF → PV
  | .ret v => v
  | _ => .none

/-- a called function: its body in its own context. What it raises goes to E through its frame -/
theorem A_fnG {C : Cx} {E : Value → Shared → Prop} {σ : AS} {f : Fn} {vs : List PV} {Q : PV → AS → Prop} (hf : C.G.isFn f) (hb : 0 < C.bud)
    (hbind : ∀ us pm cd doc, us.length = vs.length → bindArgs (Calls.docDef f.name f.params f.body f.scope pm cd doc) ⟨us, []⟩ = pure ((f.params.args.map (·.arg)).zip us))
    (hkind : ((f.params.args.map (·.arg)).all fun x => f.scope.names.lookup x == some .local || f.scope.names.lookup x == some .cell) = true)
    (hco : f.scope.isCoroutine = false) (hgen : f.scope.isGenerator = false) (hk : f.scope.kind = .function)
    (h : ∀ s, Rel C σ s → ∃ hp0 : Addr → Option PO, (∀ a p, hp0 a = some p → ∃ ob, s.heap.get? a = some ob ∧ OR C.G.w p ob) ∧ (∀ b o, C.G.base.get? b = some o → hp0 b = none) ∧
      ∀ C', FnCx C f C' → CBelow C C'.env.locals → s.heap.objs.size = C'.env.locals → C'.s0 = C.s0 → C'.fz = frz s.heap hp0 C'.env.locals →
      AF C' (execs f.body C'.env) (fun fl σ' => ∀ h', RelH C' σ' h' → ∃ σ'', RelH C σ'' h' ∧ Q fl.out σ'')
        (fun e s' => wpAny (model C'.G.prog C'.G.w) C'.A (leaving C'.env e) (fun _ s'' => E e s'') (fun e' s'' => E e' s'') s') ⟨bindP ((f.params.args.map (·.arg)).zip vs) fun _ => none, hp0⟩) :
    ACall C (.ref f.addr) vs Q E σ := by
  intro us hus s r
  obtain ⟨ok, h0, tk0, rfl, rh⟩ := id r
  obtain ⟨hp0, hobj0, hbase0, hmain⟩ := h _ r
  obtain ⟨o, pm, cd, doc, c, ob, fvs, ho, hd, hcd, hc, hcf, hcr⟩ := ok.ok.fns f hf
  have hbase : ∀ b o, C.G.base.get? b = some o → h0.get? b = some o := fun b o e => rh.keep b o (ok.base b o e)
  refine wpAny_call ?_
  have hkn : ∀ x ∈ f.params.args.map (·.arg), f.scope.names.lookup x = some .local ∨ f.scope.names.lookup x = some .cell := by
    intro x hx
    have := List.all_eq_true.mp hkind x hx
    simpa using this
  refine codeAny_call_cells (Nat.lt_of_le_of_lt (Nat.le_add_right _ _) ok.depth) (hbase _ _ ho) hd (ok.ok.nolimit.keeps hbase) (hcr.keeps hbase) rfl (hbind us pm cd doc hus.length) rfl ?_ ?_ hco hgen hk
  · rintro ⟨x, v⟩ hx
    rcases hkn x (List.of_mem_zip hx).1 with h | h
    · exact .inl h
    · exact .inr ⟨h, cellsFrom_some _ _ _ (.inl h)⟩
  · intro s₁ X
    generalize hfd : Calls.docDef f.name f.params f.body f.scope pm cd doc = fd at X ⊢
    have hsc : fd.scope = f.scope := by rw [← hfd]; rfl
    let env' := callEnvC fd h0.objs.size f.addr
    let C' : Cx := { G := C.G, A := C.A.deeper env', env := env', fz := frz h0 hp0 h0.objs.size, s0 := C.s0, wr := wrOf f.scope.names, gl := glOf f.scope.names, cv := cvOf f.scope.names, bud := C.bud - 1, hd := C.hd }
    have hscope : C'.env.scope = f.scope := hsc
    have hL : C'.env.locals = h0.objs.size := rfl
    have hcells : C'.env.cells = cellsFrom (h0.objs.size + 1) f.scope.names [] := by show cellsFrom _ fd.scope.names [] = _; rw [hsc]
    have hkd : ∀ x, C'.env.kindOf x = f.scope.names.lookup x := fun x => by show fd.scope.names.lookup x = _; rw [hsc]
    have X1 := X.toInCall.ns
    have X2 := X.toInCall.keep
    have X3 : ∀ n c, C'.env.cells.lookup n = some c → s₁.heap.IsCell c (bindC C'.env.kindOf ((f.params.args.map (·.arg)).zip us) (fun _ => none) n) := X.cell
    have X4 : C'.env.cells.Pairwise fun x y => x.2 ≠ y.2 := X.apart
    have X5 : ∀ n c, (n, c) ∈ C'.env.cells → h0.objs.size < c := X.above
    obtain ⟨h₁, tk₁, e₁⟩ := X.toInCall.same
    have hbel := rh.below
    have hF : FnCx C f C' := ⟨rfl, rfl, rfl, rfl, by show C.bud - 1 + 1 = C.bud; omega, rfl, hscope, rfl, rfl⟩
    have hcode : ∃ c o vs, C'.env.code = .ref c ∧ C.G.base.get? c = some o ∧ o.data = .fields vs := ⟨c, ob, fvs, by show fd.code = _; rw [← hfd]; exact hcd, hc, hcf⟩
    have hglob : C'.env.globals = mainGlobals := by show fd.globals = _; rw [← hfd]; rfl
    have hbt : C'.env.builtins = builtinsNs := by show fd.builtins = _; rw [← hfd]; rfl
    have hbody : execs f.body C'.env = execs f.body (callEnvC fd h0.objs.size f.addr) := rfl
    have okC' : CxOK C' := {
      ok := ok.ok
      kind := by rw [hscope]; exact hk
      globals := hglob
      builtins := hbt
      own := frz_ge (Nat.le_refl _)
      cellne := fun x c e => Nat.ne_of_gt (X5 x c (mem_of_lookup e))
      celldist := fun x y c e e' => name_of_addr X4 (mem_of_lookup e) (mem_of_lookup e')
      wrcell := fun x c _ _ e => frz_ge (Nat.le_of_lt (X5 x c (mem_of_lookup e)))
      wrhas := fun x hx => by
        have : (f.scope.names.lookup x == some .local || f.scope.names.lookup x == some .cell) = true := hx
        rcases Bool.or_eq_true_iff.mp this with h | h
        · exact .inl ((hkd x).trans (by simpa using h))
        · have h' : f.scope.names.lookup x = some .cell := by simpa using h
          refine .inr ⟨(hkd x).trans h', ?_⟩
          rw [hcells]
          exact Option.isSome_iff_exists.mp (cellsFrom_some _ _ _ (.inl h'))
      glhas := fun x hx => (hkd x).trans (by simpa [glOf] using show glOf f.scope.names x = true from hx)
      handled := ok.handled
      cvhas := fun x hx => by
        have h' : f.scope.names.lookup x = some .cell := by simpa [cvOf] using show cvOf f.scope.names x = true from hx
        rw [hcells]
        exact Option.isSome_iff_exists.mp (cellsFrom_some _ _ _ (.inl h'))
      cvkind := fun x hx => by
        have h' : f.scope.names.lookup x = some .cell := by simpa [cvOf] using show cvOf f.scope.names x = true from hx
        rw [hkd, h']; intro e; cases e
      depth := by
        have := ok.depth
        show C.A.depth + 1 + (C.bud - 1) < recursionLimit
        omega
      units := by
        have := ok.units
        show C.A.units + 3 + 3 * (C.bud - 1) + 100 < cLine
        omega
      base := fun b o e => frz_of (Heap.lt_size (hbase b o e)) (hbase0 b o e) (hbase b o e)
      code := hcode }
    have hrelP := bindP_rel (kd := C'.env.kindOf) (f.params.args.map (·.arg)) vs us (fun _ => none) (fun _ => none) (fun _ => none) hus (fun x p e => by cases e)
    have rel' : Rel C' ⟨bindP ((f.params.args.map (·.arg)).zip vs) fun _ => none, hp0⟩ s₁ := by
      subst e₁
      refine ⟨okC', h₁, tk₁, rfl, ?_⟩
      exact {
        keep := fun b o e => X2 b o (frz_some e).2.2
        ns := ⟨_, X1, fun x v e k => (hrelP x v e).1 k⟩
        cell := fun x v e k => by
          obtain ⟨u, hu, hvu⟩ := (hrelP x v e).2 k
          rcases bindP_names _ _ _ _ _ e with hx | hx
          · rcases hkn x hx with h | h
            · exact absurd ((hkd x).trans h) k
            · obtain ⟨c, hc⟩ := Option.isSome_iff_exists.mp (cellsFrom_some (x := x) f.scope.names (h0.objs.size + 1) [] (.inl h))
              rw [← hcells] at hc
              have := X3 x c hc
              rw [hu] at this
              exact ⟨c, u, hc, this, hvu⟩
          · cases hx
        kinds := fun x v e => by
          rcases bindP_names _ _ _ _ _ e with hx | hx
          · rcases hkn x hx with h | h
            · exact .inl ((hkd x).trans h)
            · exact .inr (.inl ((hkd x).trans h))
          · cases hx
        cells := fun x c e => ⟨_, X3 x c e⟩
        obj := fun a o e => let ⟨ob, ho, hr⟩ := hobj0 a o e; ⟨ob, X2 a ob ho, hr⟩
        free := fun a o e => by
          obtain ⟨ob, ho, _⟩ := hobj0 a o e
          have hlt := Heap.lt_size ho
          refine ⟨?_, Nat.ne_of_lt hlt, fun x c e' => Nat.ne_of_lt (Nat.lt_trans hlt (X5 x c (mem_of_lookup e')))⟩
          show frz h0 hp0 h0.objs.size a = none
          unfold frz
          rw [if_pos hlt]
          have e' : hp0 a = some o := e
          rw [e'] }
    refine wpAG (hmain C' hF (hL ▸ hbel) rfl rfl rfl s₁ rel') (fun fl s' pf σ' hfl r' hq => ?_) fun _ _ e => e
    obtain ⟨_, h', tk', rfl, rh'⟩ := r'
    obtain ⟨σ'', rb', hq'⟩ := hq h' rh'
    have rb : Rel C σ'' _ := ⟨ok, h', tk', rfl, rb'⟩
    cases hfl with
    | next => exact ⟨.none, _, .none, rb, hq'⟩
    | brk => exact ⟨.none, _, .none, rb, hq'⟩
    | cont => exact ⟨.none, _, .none, rb, hq'⟩
    | ret hv => exact ⟨_, _, hv, rb, hq'⟩

/-- a called function: its body in its own context. What it raises goes to E through its frame -/
theorem A_fnE {C : Cx} {E : Value → Shared → Prop} {σ : AS} {f : Fn} {vs : List PV} {Q : PV → AS → Prop} (hf : C.G.isFn f) (hb : 0 < C.bud)
    (hbind : ∀ us pm cd doc, us.length = vs.length → bindArgs (Calls.docDef f.name f.params f.body f.scope pm cd doc) ⟨us, []⟩ = pure ((f.params.args.map (·.arg)).zip us))
    (hkind : ((f.params.args.map (·.arg)).all fun x => f.scope.names.lookup x == some .local || f.scope.names.lookup x == some .cell) = true)
    (hco : f.scope.isCoroutine = false) (hgen : f.scope.isGenerator = false) (hk : f.scope.kind = .function)
    (h : ∀ C' s, Rel C σ s → FnCx C f C' → CBelow C C'.env.locals → C'.fz = frz s.heap σ.hp C'.env.locals →
      AF C' (execs f.body C'.env) (fun fl σ' => Q fl.out ⟨σ.loc, σ'.hp⟩)
        (fun e s' => wpAny (model C'.G.prog C'.G.w) C'.A (leaving C'.env e) (fun _ s'' => E e s'') (fun e' s'' => E e' s'') s') ⟨bindP ((f.params.args.map (·.arg)).zip vs) fun _ => none, σ.hp⟩) :
    ACall C (.ref f.addr) vs Q E σ := by
  refine A_fnG hf hb hbind hkind hco hgen hk fun s r => ⟨σ.hp, r.heap.obj, fun b o e => r.heap.notHp.1 b o (r.1.base b o e), fun C' hF hB hsz hs0 hfz => ?_⟩
  refine (h C' s r hF hB hfz).mono fun fl σ' hq h' r' => ⟨_, RelH.back (C' := C') r.heap hB hfz hF.G r', hq⟩

/-- a called function that never raises -/
theorem A_fn {C : Cx} {E : Value → Shared → Prop} {σ : AS} {f : Fn} {vs : List PV} {Q : PV → AS → Prop} (hf : C.G.isFn f) (hb : 0 < C.bud)
    (hbind : ∀ us pm cd doc, us.length = vs.length → bindArgs (Calls.docDef f.name f.params f.body f.scope pm cd doc) ⟨us, []⟩ = pure ((f.params.args.map (·.arg)).zip us))
    (hkind : ((f.params.args.map (·.arg)).all fun x => f.scope.names.lookup x == some .local || f.scope.names.lookup x == some .cell) = true)
    (hco : f.scope.isCoroutine = false) (hgen : f.scope.isGenerator = false) (hk : f.scope.kind = .function)
    (h : ∀ C' E', FnCx C f C' → AF C' (execs f.body C'.env) (fun fl σ' => Q fl.out ⟨σ.loc, σ'.hp⟩) E' ⟨bindP ((f.params.args.map (·.arg)).zip vs) fun _ => none, σ.hp⟩) :
    ACall C (.ref f.addr) vs Q E σ := A_fnE hf hb hbind hkind hco hgen hk fun C' s _ hF _ _ => h C' _ hF

end Mine

namespace Mine

/-! ## the cells of a comprehension's frame -/
def closL (cells : List (Str × Addr)) : List (Str × NameKind) → List (Str × Addr) → List (Str × Addr)
  | [], acc => acc
  | (n, k) :: r, acc => if k == .free then closL cells r ((n, (cells.lookup n).getD 0) :: acc) else closL cells r acc

theorem closureFor_eq {scope : Scope} {env : Env} (hf : ∀ n, (n, NameKind.free) ∈ scope.names → ∃ c, env.cells.lookup n = some c) : closureFor scope env = pure (closL env.cells scope.names []) := by
  unfold closureFor
  have : ∀ (names : List (Str × NameKind)) (acc : List (Str × Addr)), (∀ n, (n, NameKind.free) ∈ names → ∃ c, env.cells.lookup n = some c) →
      (forIn names acc (fun (x : Str × NameKind) (r : List (Str × Addr)) => if (x.2 == NameKind.free) = true then (do let a ← cellOf env x.1; pure (ForInStep.yield ((x.1, a) :: r))) else pure (ForInStep.yield r)) : Sem (List (Str × Addr))) = pure (closL env.cells names acc) := by
    intro names
    induction names with
    | nil => intro acc _; rfl
    | cons x names ih =>
      obtain ⟨n, k⟩ := x
      intro acc h
      rw [List.forIn_cons]
      unfold closL
      by_cases hk : (k == NameKind.free) = true
      · rw [if_pos hk, if_pos hk]
        have hk' : k = .free := by simpa using hk
        subst hk'
        obtain ⟨c, hc⟩ := h n (.head _)
        have : cellOf env n = pure c := by unfold cellOf; rw [hc]
        dsimp only
        rw [this, hc]
        exact ih _ fun m hm => h m (.tail _ hm)
      · rw [if_neg hk, if_neg hk]
        exact ih _ fun m hm => h m (.tail _ hm)
  have h := this scope.names [] hf
  exact congrArg (· >>= fun cs => pure cs) h |>.trans rfl

theorem closL_mem {cells : List (Str × Addr)} : ∀ (names : List (Str × NameKind)) (acc : List (Str × Addr)) (e : Str × Addr), (∀ n, (n, NameKind.free) ∈ names → ∃ c, cells.lookup n = some c) → e ∈ closL cells names acc →
    e ∈ acc ∨ ((e.1, NameKind.free) ∈ names ∧ cells.lookup e.1 = some e.2)
  | [], acc, e, _, h => .inl h
  | (n, k) :: r, acc, e, hf, h => by
    unfold closL at h
    have hr : ∀ m, (m, NameKind.free) ∈ r → ∃ c, cells.lookup m = some c := fun m hm => hf m (.tail _ hm)
    split at h
    · next hk =>
      have hk' : k = .free := by simpa using hk
      subst hk'
      rcases closL_mem r _ e hr h with h | h
      · rcases List.mem_cons.mp h with h | h
        · subst h
          obtain ⟨c, hc⟩ := hf n (.head _)
          exact .inr ⟨.head _, by simp [hc]⟩
        · exact .inl h
      · exact .inr ⟨.tail _ h.1, h.2⟩
    · rcases closL_mem r _ e hr h with h | h
      · exact .inl h
      · exact .inr ⟨.tail _ h.1, h.2⟩

theorem closL_has {cells : List (Str × Addr)} : ∀ (names : List (Str × NameKind)) (acc : List (Str × Addr)) (x : Str), (x, NameKind.free) ∈ names ∨ (acc.lookup x).isSome = true → ((closL cells names acc).lookup x).isSome = true
  | [], acc, x, h => h.elim (fun h => nomatch h) id
  | (n, k) :: r, acc, x, h => by
    unfold closL
    split
    · next hk =>
      refine closL_has r _ x ?_
      by_cases hx : (x == n) = true
      · exact .inr (by rw [List.lookup_cons, hx]; rfl)
      · rcases h with h | h
        · rcases List.mem_cons.mp h with h | h
          · cases h; simp at hx
          · exact .inl h
        · exact .inr (by rw [List.lookup_cons]; simp only [hx]; exact h)
    · next hk =>
      refine closL_has r _ x ?_
      rcases h with h | h
      · rcases List.mem_cons.mp h with h | h
        · cases h; simp at hk
        · exact .inl h
      · exact .inr h

theorem cellsFrom_mem : ∀ (names : List (Str × NameKind)) (n : Nat) (acc : List (Str × Addr)) (e : Str × Addr), e ∈ cellsFrom n names acc → e ∈ acc ∨ (n ≤ e.2 ∧ (e.1, NameKind.cell) ∈ names)
  | [], n, acc, e, h => .inl h
  | (m, k) :: r, n, acc, e, h => by
    unfold cellsFrom at h
    split at h
    · next hk =>
      have hk' : k = .cell := by simpa using hk
      subst hk'
      rcases cellsFrom_mem r _ _ e h with h | ⟨h1, h2⟩
      · rcases List.mem_cons.mp h with h | h
        · subst h; exact .inr ⟨Nat.le_refl _, .head _⟩
        · exact .inl h
      · exact .inr ⟨Nat.le_of_succ_le h1, .tail _ h2⟩
    · rcases cellsFrom_mem r _ _ e h with h | ⟨h1, h2⟩
      · exact .inl h
      · exact .inr ⟨h1, .tail _ h2⟩

theorem cellsFrom_inj (lo : Nat) : ∀ (names : List (Str × NameKind)) (n : Nat) (acc : List (Str × Addr)), lo ≤ n → (∀ e ∈ acc, e.2 < n) → (∀ e ∈ acc, ∀ e' ∈ acc, lo ≤ e.2 → e.2 = e'.2 → e = e') →
    ∀ e ∈ cellsFrom n names acc, ∀ e' ∈ cellsFrom n names acc, lo ≤ e.2 → e.2 = e'.2 → e = e'
  | [], n, acc, _, _, h => h
  | (m, k) :: r, n, acc, hn, hlt, h => by
    unfold cellsFrom
    split
    · refine cellsFrom_inj lo r (n + 1) _ (Nat.le_succ_of_le hn) ?_ ?_
      · intro e he
        rcases List.mem_cons.mp he with he | he
        · subst he; exact Nat.lt_succ_self _
        · exact Nat.lt_succ_of_lt (hlt e he)
      · intro e he e' he' hl hee
        rcases List.mem_cons.mp he with he | he <;> rcases List.mem_cons.mp he' with he' | he'
        · rw [he, he']
        · subst he; exact absurd (hlt e' he') (by rw [← hee]; exact Nat.lt_irrefl _)
        · subst he'; exact absurd (hlt e he) (by rw [hee]; exact Nat.lt_irrefl _)
        · exact h e he e' he' hl hee
    · exact cellsFrom_inj lo r n acc hn hlt h

theorem pushCells_cell : ∀ (names : List (Str × NameKind)) (h : Heap) (acc : List (Str × Addr)) (e : Str × Addr), e ∈ cellsFrom h.objs.size names acc → e ∈ acc ∨ (pushCells h names).IsCell e.2 none
  | [], h, acc, e, he => .inl he
  | (m, k) :: r, h, acc, e, he => by
    unfold cellsFrom at he
    unfold pushCells
    split at he
    · next hk =>
      rw [if_pos hk]
      have hs : (h.push { cls := .type "cell", data := .cell none }).objs.size = h.objs.size + 1 := Heap.size_push ..
      rw [← hs] at he
      rcases pushCells_cell r _ _ e he with he | he
      · rcases List.mem_cons.mp he with he | he
        · subst he
          exact .inr ⟨_, pushCells_keeps _ _ _ _ (Heap.get?_push_size _ rfl), rfl⟩
        · exact .inl he
      · exact .inr he
    · next hk =>
      rw [if_neg hk]
      exact pushCells_cell r h acc e he

theorem wpAny_compEnv {M : Model} {A : Around} {E : Value → Shared → Prop} {s : Shared} {scope : Scope} {globals : Addr} {cl : List (Str × Addr)} {qual : Str} {env : Env} {Q : Env → Shared → Prop}
    (h : Q (newEnv scope s.heap.objs.size globals (cellsFrom (s.heap.objs.size + 1) scope.names cl) qual none .none (some env) builtinsNs) { s with heap := pushCells (s.heap.push { cls := .type "dict", data := .dict #[] }) scope.names }) :
    wpAny M A (newFunctionEnv scope globals cl [] qual none .none (some env)) Q E s := by
  simp only [newFunctionEnv, Option.isSome_some, if_true]
  refine wpAny_bind (wpAny_alloc ?_)
  refine wpAny_bind (wpAny_layCells _ (fun name kind cells => by cases hkc : kind == NameKind.cell <;> simp [hkc]) _ _ _ _ ?_)
  rw [show ({ s with heap := s.heap.push { cls := .type "dict", data := .dict #[] } } : Shared).heap.objs.size = s.heap.objs.size + 1 from Heap.size_push ..]
  refine wpAny_bind ?_
  rw [List.forIn_nil]
  exact wpAny_pure (wpAny_pure h)

def cvfOf (names : List (Str × NameKind)) (x : Str) : Bool := names.lookup x == some .free || names.lookup x == some .cell

theorem lookup_of_mem {α : Type} : ∀ {l : List (Str × α)} {x : Str} {v : α}, (l.map (·.1)).Nodup → (x, v) ∈ l → l.lookup x = some v
  | (y, w) :: r, x, v, hn, h => by
    rw [List.lookup_cons]
    rw [List.map_cons, List.nodup_cons] at hn
    rcases List.mem_cons.mp h with h | h'
    · cases h; simp
    · have : (x == y) = false := by
        cases hb : x == y with
        | false => rfl
        | true =>
          have : x = y := by simpa using hb
          subst this
          exact (hn.1 (List.mem_map.mpr ⟨(x, v), h', rfl⟩)).elim
      rw [this]
      exact lookup_of_mem hn.2 h'

theorem kind_relabel {sc : Scope} {env : Env} (hk : env.scope.kind = .function) (x : Str) :
    (relabel sc env).names.lookup x = match sc.names.lookup x with | some .free => if env.kindOf x = some .cell then some .cell else some .free | k => k := by
  unfold relabel
  have : ∀ names : List (Str × NameKind), (names.map fun (n, k) => if (k == NameKind.free && env.scope.kind == .function && env.kindOf n == some .cell) = true then (n, NameKind.cell) else (n, k)).lookup x =
      match names.lookup x with | some .free => if env.kindOf x = some .cell then some .cell else some .free | k => k := by
    intro names
    induction names with
    | nil => rfl
    | cons y r ih =>
      obtain ⟨n, k⟩ := y
      show List.lookup x ((if (k == NameKind.free && env.scope.kind == .function && env.kindOf n == some .cell) = true then (n, NameKind.cell) else (n, k)) :: _) = _
      cases hx : x == n with
      | true =>
        have : x = n := by simpa using hx
        subst this
        rw [hk]
        cases k <;> simp [List.lookup_cons]
        by_cases hc : env.kindOf x = some .cell
        · simp [hc]
        · simp [hc]
      | false =>
        have e : ∀ k', List.lookup x ((n, k') :: (r.map fun (n, k) => if (k == NameKind.free && env.scope.kind == .function && env.kindOf n == some .cell) = true then (n, NameKind.cell) else (n, k))) =
            List.lookup x (r.map fun (n, k) => if (k == NameKind.free && env.scope.kind == .function && env.kindOf n == some .cell) = true then (n, NameKind.cell) else (n, k)) := fun k' => by rw [List.lookup_cons, hx]
        have e2 : List.lookup x ((n, k) :: r) = List.lookup x r := by rw [List.lookup_cons, hx]
        rw [e2]
        split
        · rw [e]; exact ih
        · rw [e]; exact ih
  exact this sc.names

structure CompCx (C : Cx) (sc : Scope) (C' : Cx) : Prop where
  G : C'.G = C.G
  wr : C'.wr = wrOf sc.names
  gl : C'.gl = glOf sc.names
  cv : C'.cv = cvfOf sc.names
  bud : C'.bud = C.bud
  hd : C'.hd = C.hd

def locC (sc : Scope) (loc : Str → Option PV) : Str → Option PV := fun y => if sc.names.lookup y = some .free then loc y else none

/-- the context in a comprehension whose frame lies at L, whose cells are cs -/
def compCx (C : Cx) (sc : Scope) (cs : List (Str × Addr)) (L : Addr) (h : Heap) (hp : Addr → Option PO) : Cx :=
  { G := C.G, A := C.A, env := { scope := relabel sc C.env, locals := L, globals := C.env.globals, cells := cs, qual := C.env.qual, func := none, code := C.env.code, frame := C.env.frame, builtins := C.env.builtins },
    fz := frz h hp L, s0 := C.s0, wr := wrOf sc.names, gl := glOf sc.names, cv := cvfOf sc.names, bud := C.bud, hd := C.hd }

theorem compCx_is (C : Cx) (sc : Scope) (cs : List (Str × Addr)) (L : Addr) (h : Heap) (hp : Addr → Option PO) : CompCx C sc (compCx C sc cs L h hp) := ⟨rfl, rfl, rfl, rfl, rfl, rfl⟩

/-- the cells of the comprehension's frame: those of the outer names, and its own behind L -/
structure CellsC (C : Cx) (sc : Scope) (L : Addr) (cs : List (Str × Addr)) : Prop where
  each : ∀ x c, cs.lookup x = some c → (sc.names.lookup x = some .free ∧ C.env.cells.lookup x = some c) ∨ (sc.names.lookup x = some .cell ∧ L < c)
  has : ∀ x, sc.names.lookup x = some .free ∨ sc.names.lookup x = some .cell → ∃ c, cs.lookup x = some c
  inj : ∀ x y c, cs.lookup x = some c → cs.lookup y = some c → x = y

theorem cellsC_of {C : Cx} {sc : Scope} {L : Addr} (ok : CxOK C) (hb : CBelow C L) (hnd : (sc.names.map (·.1)).Nodup) (hfree : ∀ y, sc.names.lookup y = some .free → C.cv y = true) :
    CellsC C sc L (cellsFrom (L + 1) sc.names (closL C.env.cells sc.names [])) := by
  have hf : ∀ n, (n, NameKind.free) ∈ sc.names → ∃ c, C.env.cells.lookup n = some c := fun n hn => ok.cvhas n (hfree n (lookup_of_mem hnd hn))
  have hcl : ∀ e ∈ closL C.env.cells sc.names [], sc.names.lookup e.1 = some .free ∧ C.env.cells.lookup e.1 = some e.2 := fun e he => by
    rcases closL_mem _ _ e hf he with h | h
    · cases h
    · exact ⟨lookup_of_mem hnd h.1, h.2⟩
  have each : ∀ x c, (cellsFrom (L + 1) sc.names (closL C.env.cells sc.names [])).lookup x = some c → (sc.names.lookup x = some .free ∧ C.env.cells.lookup x = some c) ∨ (sc.names.lookup x = some .cell ∧ L < c) := fun x c e => by
    rcases cellsFrom_mem _ _ _ _ (mem_of_lookup e) with h | h
    · exact .inl (hcl _ h)
    · exact .inr ⟨lookup_of_mem hnd h.2, h.1⟩
  refine ⟨each, ?_, ?_⟩
  · intro x h
    refine Option.isSome_iff_exists.mp (cellsFrom_some _ _ _ ?_)
    rcases h with h | h
    · exact .inr (closL_has _ _ _ (.inl (mem_of_lookup h)))
    · exact .inl h
  · intro x y c e e'
    rcases each x c e with ⟨h1, h2⟩ | ⟨h1, h2⟩ <;> rcases each y c e' with ⟨k1, k2⟩ | ⟨k1, k2⟩
    · exact ok.celldist _ _ _ h2 k2
    · exact absurd (hb.cell _ _ h2) (Nat.not_lt.mpr (Nat.le_of_lt k2))
    · exact absurd (hb.cell _ _ k2) (Nat.not_lt.mpr (Nat.le_of_lt h2))
    · have := cellsFrom_inj (L + 1) sc.names (L + 1) (closL C.env.cells sc.names []) (Nat.le_refl _) (fun e he => Nat.lt_succ_of_lt (hb.cell _ _ (hcl e he).2)) (fun e he e' he' hl _ => absurd (hb.cell _ _ (hcl e he).2) (Nat.not_lt.mpr (Nat.le_of_succ_le hl)))
        (x, c) (mem_of_lookup e) (y, c) (mem_of_lookup e') h2 rfl
      exact (Prod.mk.inj this).1

theorem compOK {C : Cx} {sc : Scope} {cs : List (Str × Addr)} {L : Addr} {h : Heap} {σ : AS} (ok : CxOK C) (r : RelH C σ h) (hb : CBelow C L) (hkind : sc.kind = .function) (cc : CellsC C sc L cs)
    (hfree : ∀ y, sc.names.lookup y = some .free → C.cv y = true) : CxOK (compCx C sc cs L h σ.hp) where
  ok := ok.ok
  kind := hkind
  globals := ok.globals
  builtins := ok.builtins
  own := frz_ge (Nat.le_refl _)
  cellne := fun x c e => by
    rcases cc.each x c e with ⟨_, h2⟩ | ⟨_, h2⟩
    · exact Nat.ne_of_lt (hb.cell x c h2)
    · exact Nat.ne_of_gt h2
  celldist := cc.inj
  wrcell := fun x c hw hk e => by
    rcases cc.each x c e with ⟨h1, h2⟩ | ⟨_, h2⟩
    · have : wrOf sc.names x = true := hw
      unfold wrOf at this
      rw [h1] at this; cases this
    · exact frz_ge (Nat.le_of_lt h2)
  wrhas := fun x hw => by
    have hw' : wrOf sc.names x = true := hw
    have hk : (compCx C sc cs L h σ.hp).env.kindOf x = _ := kind_relabel ok.kind x
    unfold wrOf at hw'
    rcases Bool.or_eq_true_iff.mp hw' with h | h
    · have h' : sc.names.lookup x = some .local := by simpa using h
      rw [h'] at hk; exact .inl hk
    · have h' : sc.names.lookup x = some .cell := by simpa using h
      rw [h'] at hk; exact .inr ⟨hk, cc.has x (.inr h')⟩
  glhas := fun x hg => by
    have h' : sc.names.lookup x = some .globalImplicit := by simpa [glOf] using show glOf sc.names x = true from hg
    have hk : (compCx C sc cs L h σ.hp).env.kindOf x = _ := kind_relabel ok.kind x
    rw [h'] at hk; exact hk
  handled := ok.handled
  cvhas := fun x hx => by
    have hx' : cvfOf sc.names x = true := hx
    unfold cvfOf at hx'
    rcases Bool.or_eq_true_iff.mp hx' with h | h
    · exact cc.has x (.inl (by simpa using h))
    · exact cc.has x (.inr (by simpa using h))
  cvkind := fun x hx => by
    have hx' : cvfOf sc.names x = true := hx
    have hk : (compCx C sc cs L h σ.hp).env.kindOf x = _ := kind_relabel ok.kind x
    unfold cvfOf at hx'
    rcases Bool.or_eq_true_iff.mp hx' with h | h
    · have h' : sc.names.lookup x = some .free := by simpa using h
      rw [h'] at hk
      rw [hk]; dsimp only; split <;> (intro e; cases e)
    · have h' : sc.names.lookup x = some .cell := by simpa using h
      rw [h'] at hk
      rw [hk]; intro e; cases e
  depth := ok.depth
  units := ok.units
  base := fun b o e => frz_of (hb.fz b o (ok.base b o e)) (r.notHp.1 b o (ok.base b o e)) (r.keep b o (ok.base b o e))
  code := ok.code

/-- in the comprehension's frame, ahead of the item's store -/
theorem compRel {C : Cx} {sc : Scope} {cs : List (Str × Addr)} {L : Addr} {h : Heap} {σ : AS} (ok : CxOK C) (r : RelH C σ h) (hb : CBelow C L) (cc : CellsC C sc L cs)
    (hfree : ∀ y, sc.names.lookup y = some .free → C.cv y = true) (hns : ∃ m, h.Ns L m) (hown : ∀ x c, cs.lookup x = some c → L < c → ∃ v, h.IsCell c v)
    (hhL : σ.hp L = none) (hho : ∀ x c, cs.lookup x = some c → L < c → σ.hp c = none) : RelH (compCx C sc cs L h σ.hp) ⟨locC sc σ.loc, σ.hp⟩ h where
  keep := fun b o e => (frz_some e).2.2
  ns := let ⟨m, hm⟩ := hns; ⟨m, hm, fun x v e k => by
    have hk : (compCx C sc cs L h σ.hp).env.kindOf x = _ := kind_relabel ok.kind x
    unfold locC at e
    dsimp only at e
    split at e
    · next hf =>
      rw [hf] at hk
      dsimp only at hk
      rw [k] at hk
      split at hk <;> cases hk
    · cases e⟩
  cell := fun x v e k => by
    unfold locC at e
    dsimp only at e
    split at e
    · next hf =>
      obtain ⟨c, u, h1, h2, h3⟩ := r.cell x v e (ok.cvkind x (hfree x hf))
      obtain ⟨c', hc'⟩ := cc.has x (.inl hf)
      rcases cc.each x c' hc' with ⟨_, k2⟩ | ⟨k1, _⟩
      · rw [h1] at k2; cases k2
        exact ⟨c, u, hc', h2, h3⟩
      · rw [hf] at k1; cases k1
    · cases e
  kinds := fun x v e => by
    have hk : (compCx C sc cs L h σ.hp).env.kindOf x = _ := kind_relabel ok.kind x
    unfold locC at e
    dsimp only at e
    split at e
    · next hf =>
      rw [hf] at hk
      dsimp only at hk
      split at hk
      · exact .inr (.inl hk)
      · exact .inr (.inr hk)
    · cases e
  cells := fun x c e => by
    rcases cc.each x c e with ⟨_, h2⟩ | ⟨_, h2⟩
    · exact r.cells x c h2
    · exact hown x c e h2
  obj := r.obj
  free := fun a o e => by
    refine ⟨?_, ?_, ?_⟩
    · show frz h σ.hp L a = none
      have e' : σ.hp a = some o := e
      unfold frz
      split
      · rw [e']
      · rfl
    · intro ea
      have ea' : a = L := ea
      have e' : σ.hp L = some o := ea' ▸ e
      rw [hhL] at e'; cases e'
    · rintro x c ec rfl
      rcases cc.each x _ ec with ⟨_, h2⟩ | ⟨_, h2⟩
      · exact (r.free _ o e).2.2 x _ h2 rfl
      · have e' : σ.hp a = some o := e
        rw [hho x _ ec h2] at e'; cases e'

/-- an object out of sight is taken onto the abstract heap -/
theorem RelH.adopt {C : Cx} {σ : AS} {h : Heap} {p : PO} {o : Obj} {a : Addr} (r : RelH C σ h) (ho : h.get? a = some o) (hr : OR C.G.w p o) (hf : C.fz a = none) (hL : a ≠ C.env.locals) (hc : ∀ x c, C.env.cells.lookup x = some c → a ≠ c) :
    RelH C (σ.pt a p) h where
  keep := r.keep
  ns := r.ns
  cell := r.cell
  kinds := r.kinds
  cells := r.cells
  obj := fun b q e => by
    unfold AS.pt upd at e
    dsimp only at e
    split at e
    · next hb => subst hb; cases e; exact ⟨_, ho, hr⟩
    · exact r.obj b q e
  free := fun b q e => by
    unfold AS.pt upd at e
    dsimp only at e
    split at e
    · next hb => subst hb; exact ⟨hf, hL, hc⟩
    · exact r.free b q e

def ATests (C : Cx) : List Expr → (Bool → AS → Prop) → (Value → Shared → Prop) → AS → Prop
  | [], Q, E, σ => Q true σ
  | [c], Q, E, σ => AB C (isTrue c C.env (eval c C.env)) Q E σ
  | _ :: _ :: _, _, _, _ => False

theorem AB_tests {C : Cx} {ifs : List Expr} {Q : Bool → AS → Prop} {E : Value → Shared → Prop} {σ : AS} (h : ATests C ifs Q E σ) :
    AB C (forIn ifs true fun c r => if r = true then do let ok ← isTrue c C.env (eval c C.env); pure (ForInStep.yield ok) else pure (ForInStep.yield r)) Q E σ := by
  intro s r
  match ifs, h with
  | [], h => rw [List.forIn_nil]; exact wpAny_pure ⟨true, σ, rfl, r, h⟩
  | [c], h =>
    rw [List.forIn_cons]
    refine wpAny_bind ?_
    rw [if_pos rfl]
    exact wpAny_bind (wpAny_mono (h s r) (fun b s₁ h₁ => wpAny_pure (by dsimp only; rw [List.forIn_nil]; exact wpAny_pure h₁)) fun _ _ e => e)

/-- the state between two turns of a list comprehension -/
structure CompTurn (C : Cx) (loc : Str → Option PV) (cs : List (Str × Addr)) (L it D : Addr) (acc : List PV) (hp : Addr → Option PO) (h : Heap) : Prop where
  rel : RelH C ⟨loc, hp⟩ h
  acc : ∃ ws k, h.get? D = some (listO ws k) ∧ VRs acc ws
  ns : ∃ m, h.Ns L m
  own : ∀ x c, cs.lookup x = some c → L < c → ∃ v, h.IsCell c v
  hit : hp it = none
  hD : hp D = none
  hL : hp L = none
  ho : ∀ x c, cs.lookup x = some c → L < c → hp c = none


/-- the loop of a list comprehension -/
theorem comp_loop {C : Cx} {loc : Str → Option PV} {sc : Scope} {cs : List (Str × Addr)} {L it D : Addr} {vs : List PV} {Ok : AS → Prop} {St : Nat → Heap → Prop} {x : Str} {px : Pos} {elt iter : Expr} {ifs : List Expr} {pos : Pos}
    {R : Result → Shared → Prop} (I : Nat → List PV → (Addr → Option PO) → Prop)
    (ok : CxOK C) (hb : CBelow C L) (hkind : sc.kind = .function) (cc : CellsC C sc L cs) (hfree : ∀ y, sc.names.lookup y = some .free → C.cv y = true) (hx : wrOf sc.names x = true)
    (hit1 : C.fz it = none) (hit2 : it ≠ C.env.locals) (hit3 : ∀ x c, C.env.cells.lookup x = some c → it ≠ c) (hitL : it < L)
    (hD1 : C.fz D = none) (hD2 : D ≠ C.env.locals) (hD3 : ∀ x c, C.env.cells.lookup x = some c → D ≠ c) (hDL : D < L) (hDit : D ≠ it)
    (W : AIter C it [] vs Ok St) (hsz : vs.length ≤ sizeLine) (IOk : ∀ i acc hp, I i acc hp → Ok ⟨loc, hp⟩)
    (turn : ∀ i acc hp v C' E', vs[i]? = some v → I i acc hp → CompCx C sc C' →
      ATests C' ifs (fun b σ' => if b = true then AV C' (eval elt C'.env) (fun w σ'' => I (i + 1) (acc ++ [w]) σ''.hp) E' σ' else I (i + 1) acc σ'.hp) E' ⟨updS (locC sc loc) x v, hp⟩)
    (fin : ∀ acc hp h tk, I vs.length acc hp → CompTurn C loc cs L it D acc hp h → R (.ok .next) { C.s0 with heap := h, toks := tk })
    {hp0 : Addr → Option PO} {h0 : Heap} {tk0 : Nat} (I0 : I 0 [] hp0) (st0 : St 0 h0) (T0 : CompTurn C loc cs L it D [] hp0 h0) :
    codeAny (model C.G.prog C.G.w) C.A (.compLoop (.ListComp elt [⟨.Name x px, iter, ifs, 0⟩] sc pos) 0 (.ref it) (.ref D) (compCx C sc cs L h0 hp0).env) R { C.s0 with heap := h0, toks := tk0 } := by
  refine codeAny_compLoop_tests (fun n s => ∃ i acc hp h tk, n + i = vs.length ∧ I i acc hp ∧ acc.length ≤ i ∧ s = { C.s0 with heap := h, toks := tk } ∧ St i h ∧ CompTurn C loc cs L it D acc hp h) ?_ vs.length
    ⟨0, [], hp0, h0, tk0, rfl, I0, Nat.le_refl _, rfl, st0, T0⟩
  rintro n s ⟨i, acc, hp, h, tk, hni, hI, hacc, rfl, st, T⟩
  have r : Rel C ⟨loc, hp⟩ { C.s0 with heap := h, toks := tk } := ⟨ok, h, tk, rfl, T.rel⟩
  by_cases hlt : i < vs.length
  · obtain ⟨v, hv⟩ : ∃ v, vs[i]? = some v := ⟨vs[i], by simp [hlt]⟩
    refine W.item i ⟨loc, hp⟩ _ _ _ v hv r (IOk _ _ _ hI) st ?_
    intro h2 tk2 u hvu st2 hext
    have rh2 : RelH C ⟨loc, hp⟩ h2 := T.rel.keepsBut (fun b o hb e => hext b o hb e) hit1 hit2 hit3 T.hit
    have T2 : CompTurn C loc cs L it D acc hp h2 := {
      rel := rh2
      acc := let ⟨ws, k, ho, hv⟩ := T.acc; ⟨ws, k, hext D _ hDit ho, hv⟩
      ns := let ⟨m, o, es, ep, ho, hr⟩ := T.ns; ⟨m, o, es, ep, hext L o (Nat.ne_of_gt hitL) ho, hr⟩
      own := fun x c e hl => let ⟨v, o, ho, hd⟩ := T.own x c e hl; ⟨v, o, hext c o (Nat.ne_of_gt (Nat.lt_trans hitL hl)) ho, hd⟩
      hit := T.hit
      hD := T.hD
      hL := T.hL
      ho := T.ho }
    let C2 := compCx C sc cs L h2 hp
    have henv : C2.env = (compCx C sc cs L h0 hp0).env := rfl
    have r2 : Rel C2 ⟨locC sc loc, hp⟩ { C.s0 with heap := h2, toks := tk2 } := ⟨compOK (σ := ⟨loc, hp⟩) ok rh2 hb hkind cc hfree, h2, tk2, rfl, compRel (σ := ⟨loc, hp⟩) ok rh2 hb cc hfree T2.ns T2.own T2.hL T2.ho⟩
    refine wpAny_assign_Name ?_
    refine wpAG (AU_store (C := C2) (Q := fun _ σ'' => σ'' = AS.st ⟨locC sc loc, hp⟩ x v) hx hvu rfl _ r2) (fun _ s4 _ σ4 _ r4 e4 => ?_) fun _ _ e => e
    subst e4
    -- what a state of the frame says of the outer one
    have out : ∀ σ5 s5, Rel C2 σ5 s5 → ∃ h5 tk5, s5 = { C.s0 with heap := h5, toks := tk5 } ∧ St (i + 1) h5 ∧ CompTurn C loc cs L it D acc σ5.hp h5 := by
      rintro σ5 s5 ⟨_, h5, tk5, rfl, rh5⟩
      have fzit : ∃ oi, C2.fz it = some oi := by
        obtain ⟨oi, hoi⟩ := W.has _ _ st2
        exact ⟨oi, frz_of hitL T.hit hoi⟩
      have fzD : ∃ ws k, C2.fz D = some (listO ws k) ∧ VRs acc ws := by
        obtain ⟨ws, k, ho, hv⟩ := T2.acc
        exact ⟨ws, k, frz_of hDL T.hD ho, hv⟩
      have none_of : ∀ a o, C2.fz a = some o → σ5.hp a = none := fun a o e => by
        cases e' : σ5.hp a with
        | none => rfl
        | some p => rw [(rh5.free a p e').1] at e; cases e
      refine ⟨h5, tk5, rfl, ?_, ?_⟩
      · refine W.frame _ _ _ st2 fun b hb o e => ?_
        have : b = it := by simpa using hb
        subst this
        exact rh5.keep b o (frz_of hitL T.hit e)
      · exact {
          rel := RelH.back (C' := C2) (σ := ⟨loc, hp⟩) rh2 hb rfl rfl rh5
          acc := let ⟨ws, k, hf, hv⟩ := fzD; ⟨ws, k, rh5.keep _ _ hf, hv⟩
          ns := let ⟨m, hm, _⟩ := rh5.ns; ⟨m, hm⟩
          own := fun x c e _ => rh5.cells x c e
          hit := let ⟨oi, h⟩ := fzit; none_of _ _ h
          hD := let ⟨ws, k, h, _⟩ := fzD; none_of _ _ h
          hL := by
            cases e' : σ5.hp L with
            | none => rfl
            | some p => exact absurd rfl (rh5.free L p e').2.1
          ho := fun x c e _ => by
            cases e' : σ5.hp c with
            | none => rfl
            | some p => exact absurd rfl ((rh5.free c p e').2.2 x c e) }
    refine wpAG (AB_tests (turn i acc hp v C2 _ hv hI (compCx_is ..)) s4 r4) (fun b s5 b' σ5 hbb r5 h5 => ?_) fun _ _ e => e
    subst hbb
    cases b' with
    | false =>
      obtain ⟨h6, tk6, rfl, st6, T6⟩ := out σ5 s5 r5
      exact ⟨n - 1, by omega, i + 1, acc, σ5.hp, h6, tk6, by omega, h5, Nat.le_succ_of_le hacc, rfl, st6, T6⟩
    | true =>
      refine wpAG (h5 s5 r5) (fun w s6 pw σ6 hw r6 h6 => ?_) fun _ _ e => e
      obtain ⟨h7, tk7, rfl, st7, T7⟩ := out σ6 s6 r6
      obtain ⟨ws, k, hoD, hvs⟩ := T7.acc
      refine append_at hoD (fun h8 hs8 ho8 => ?_) ?_
      · refine ⟨n - 1, by omega, i + 1, acc ++ [pw], σ6.hp, h8, tk7, by omega, h6, by simp; exact hacc, rfl, ?_, ?_⟩
        · refine W.frame _ _ _ st7 fun b hb o e => ?_
          have : b = it := by simpa using hb
          subst this
          exact hs8.extBut b o (Ne.symm hDit) e
        · exact {
            rel := T7.rel.keepsBut (fun b o hb e => hs8.extBut b o hb e) hD1 hD2 hD3 T7.hD
            acc := ⟨ws ++ [w], k + 1, by simpa [listO] using ho8, hvs.snoc hw⟩
            ns := let ⟨m, hm⟩ := T7.ns; ⟨m, hm.sameBut hs8 (Nat.ne_of_gt hDL)⟩
            own := fun x c e hl => let ⟨v, hv⟩ := T7.own x c e hl; ⟨v, hv.sameBut hs8 (Nat.ne_of_gt (Nat.lt_trans hDL hl))⟩
            hit := T7.hit
            hD := T7.hD
            hL := T7.hL
            ho := T7.ho }
      · have := hvs.length
        simp only [List.size_toArray]
        omega
  · have hie : i = vs.length := by omega
    subst hie
    refine W.done ⟨loc, hp⟩ _ _ _ r (IOk _ _ _ hI) st ?_
    intro h2 tk2 hext
    have rh2 : RelH C ⟨loc, hp⟩ h2 := T.rel.keepsBut (fun b o hb e => hext b o hb e) hit1 hit2 hit3 T.hit
    exact fin acc hp h2 tk2 hI {
      rel := rh2
      acc := let ⟨ws, k, ho, hv⟩ := T.acc; ⟨ws, k, hext D _ hDit ho, hv⟩
      ns := let ⟨m, o, es, ep, ho, hr⟩ := T.ns; ⟨m, o, es, ep, hext L o (Nat.ne_of_gt hitL) ho, hr⟩
      own := fun x c e hl => let ⟨v, o, ho, hd⟩ := T.own x c e hl; ⟨v, o, hext c o (Nat.ne_of_gt (Nat.lt_trans hitL hl)) ho, hd⟩
      hit := T.hit
      hD := T.hD
      hL := T.hL
      ho := T.ho }

/-- what a list comprehension asks, and gives -/
def CompGives (C : Cx) (sc : Scope) (x : Str) (ifs : List Expr) (elt : Expr) (Q : PV → AS → Prop) (p : PV) (σ₁ : AS) : Prop :=
  ∃ Ok En, Iterable C p Ok En ∧ Ok σ₁ ∧ ∀ vs, En vs → vs.length ≤ sizeLine ∧ ∃ I : Nat → List PV → (Addr → Option PO) → Prop, I 0 [] σ₁.hp ∧ (∀ i acc hp, I i acc hp → Ok ⟨σ₁.loc, hp⟩) ∧
    (∀ i acc hp v C' E', vs[i]? = some v → I i acc hp → CompCx C sc C' →
      ATests C' ifs (fun b σ' => if b = true then AV C' (eval elt C'.env) (fun w σ'' => I (i + 1) (acc ++ [w]) σ''.hp) E' σ' else I (i + 1) acc σ'.hp) E' ⟨updS (locC sc σ₁.loc) x v, hp⟩) ∧
    (∀ acc hp D, I vs.length acc hp → hp D = none → Q (.ref D) ⟨σ₁.loc, upd hp D (.list acc)⟩)

structure CompOk (C : Cx) (sc : Scope) (x : Str) : Prop where
  kind : sc.kind = .function
  nodup : (sc.names.map (·.1)).Nodup
  wr : wrOf sc.names x = true
  free : ∀ y, sc.names.lookup y = some .free → C.cv y = true

theorem comp_core {C : Cx} {E : Value → Shared → Prop} {σ : AS} {x : Str} {px pos : Pos} {elt iter : Expr} {ifs : List Expr} {sc : Scope} {u : Value} {p : PV} {s₁ : Shared} {Q : PV → AS → Prop}
    (co : CompOk C sc x) (hu : VR p u) (r₁ : Rel C σ s₁) (h : CompGives C sc x ifs elt Q p σ) (RR : Value → Addr → Result → Shared → Prop)
    (fin : ∀ D L s' , (∃ m, s'.heap.Ns L m) → (∃ σ', Rel C σ' s' ∧ Q (.ref D) σ' ∧ C.fz L = none ∧ L ≠ C.env.locals ∧ (∀ x c, C.env.cells.lookup x = some c → L ≠ c) ∧ σ'.hp L = none) → RR (.ref D) L (.ok .next) s') :
    wpAny (model C.G.prog C.G.w) C.A (pyIter u) (fun it s₂ => wpAny (model C.G.prog C.G.w) C.A (newList []) (fun acc s₃ =>
      wpAny (model C.G.prog C.G.w) C.A (newFunctionEnv sc C.env.globals (closL C.env.cells sc.names []) [] C.env.qual none .none (some C.env)) (fun cenv s₄ =>
        codeAny (model C.G.prog C.G.w) C.A (.compStart (.ListComp elt [⟨.Name x px, iter, ifs, 0⟩] sc pos) 0 it acc { cenv with scope := relabel sc C.env }) (RR acc cenv.locals) s₄) E s₃) E s₂) E s₁ := by
  obtain ⟨Ok, En, hIt, ok₁, rest⟩ := h
  refine hIt σ s₁ u _ _ hu r₁ ok₁ ?_
  intro it h1 tk1 vs St hEn hnew hk st0 W
  obtain ⟨hsz, I, I0, IOk, turn, last⟩ := rest vs hEn
  obtain ⟨ok, h0, tk0, rfl, rh0⟩ := r₁
  obtain ⟨f1, f2, f3, f4⟩ := rh0.fresh hnew
  have rh1 : RelH C σ h1 := rh0.keeps hk
  obtain ⟨oit, hoit⟩ := W.has _ _ st0
  have hitlt : it < h1.objs.size := Heap.lt_size hoit
  obtain ⟨d1, d2, d3, d4⟩ := rh1.fresh (heap_size_none h1)
  refine wpAny_newObj_type (wpAny_compEnv ?_)
  dsimp only
  generalize hH2 : h1.push { cls := .type "list", dict := none, data := .seq ([] : List Value).toArray } = H2
  have hL : H2.objs.size = h1.objs.size + 1 := by rw [← hH2, Heap.size_push]
  have k12 : ∀ b o, h1.get? b = some o → H2.get? b = some o := fun b o e => hH2 ▸ Heap.get?_push_of_some _ e
  have rh2 : RelH C σ H2 := rh1.keeps k12
  generalize hH4 : pushCells (H2.push { cls := .type "dict", dict := none, data := .dict #[] }) sc.names = H4
  have k24 : ∀ b o, H2.get? b = some o → H4.get? b = some o := fun b o e => hH4 ▸ pushCells_keeps _ _ b o (Heap.get?_push_of_some _ e)
  have rh4 : RelH C σ H4 := rh2.keeps k24
  have hbel : CBelow C H2.objs.size := rh2.below
  have cc := cellsC_of ok hbel co.nodup co.free
  generalize hcs : cellsFrom (H2.objs.size + 1) sc.names (closL C.env.cells sc.names []) = cs at cc
  have hown : ∀ x c, cs.lookup x = some c → H2.objs.size < c → ∃ v, H4.IsCell c v := fun y c e hl => by
    have hm := mem_of_lookup e
    rw [← hcs] at hm
    have hs : (H2.push { cls := .type "dict", dict := none, data := .dict #[] }).objs.size = H2.objs.size + 1 := Heap.size_push ..
    rw [← hs] at hm
    rcases pushCells_cell _ _ _ _ hm with h | h
    · have hf : ∀ n, (n, NameKind.free) ∈ sc.names → ∃ c, C.env.cells.lookup n = some c := fun n hn => ok.cvhas n (co.free n (lookup_of_mem co.nodup hn))
      rcases closL_mem _ _ _ hf h with h | h
      · cases h
      · exact absurd (hbel.cell _ _ h.2) (Nat.not_lt.mpr (Nat.le_of_lt hl))
    · exact ⟨none, hH4 ▸ h⟩
  have hnone : ∀ a, H2.objs.size ≤ a → σ.hp a = none := fun a ha => by
    cases e : σ.hp a with
    | none => rfl
    | some o => obtain ⟨ob, hob, _⟩ := rh2.obj a o e; exact absurd (Heap.lt_size hob) (Nat.not_lt.mpr ha)
  have T0 : CompTurn C σ.loc cs H2.objs.size it h1.objs.size [] σ.hp H4 := {
    rel := rh4
    acc := ⟨[], 0, k24 _ _ (hH2 ▸ Heap.get?_push_size _ rfl), .nil⟩
    ns := ⟨_, hH4 ▸ (Heap.Ns.new H2 (.type "dict")).keeps (pushCells_keeps _ _)⟩
    own := hown
    hit := f4
    hD := d4
    hL := hnone _ (Nat.le_refl _)
    ho := fun x c e hl => hnone c (Nat.le_of_lt hl) }
  have st4 : St 0 H4 := W.frame _ _ _ st0 fun b _ o e => k24 b o (k12 b o e)
  have loop : ∀ tk, codeAny (model C.G.prog C.G.w) C.A (.compLoop (.ListComp elt [⟨.Name x px, iter, ifs, 0⟩] sc pos) 0 (.ref it) (.ref h1.objs.size) (compCx C sc cs H2.objs.size H4 σ.hp).env) (RR (.ref h1.objs.size) H2.objs.size) { C.s0 with heap := H4, toks := tk } := by
    intro tk
    refine comp_loop I ok hbel co.kind cc co.free co.wr f1 f2 f3 (by rw [hL]; exact Nat.lt_succ_of_lt hitlt) d1 d2 d3 (by rw [hL]; exact Nat.lt_succ_self _) (Nat.ne_of_gt hitlt) W hsz (fun i acc hp hI => IOk i acc hp hI) turn ?_ I0 st4 T0
    intro acc hp h tk' hI T
    refine fin _ _ _ T.ns ⟨⟨σ.loc, upd hp h1.objs.size (.list acc)⟩, ⟨ok, h, tk', rfl, ?_⟩, last acc hp _ hI T.hD, ?_, ?_, ?_, ?_⟩
    · obtain ⟨ws, k, ho, hv⟩ := T.acc
      exact T.rel.adopt ho (p := .list acc) ⟨ws, k, rfl, hv⟩ d1 d2 d3
    · cases e : C.fz H2.objs.size with
      | none => rfl
      | some o => exact absurd (hbel.fz _ o e) (Nat.lt_irrefl _)
    · exact Nat.ne_of_gt hbel.loc
    · exact fun x c e => Nat.ne_of_gt (hbel.cell x c e)
    · show upd hp h1.objs.size (.list acc) H2.objs.size = none
      unfold upd
      rw [if_neg (by rw [hL]; exact Nat.succ_ne_self _)]
      exact T.hL
  refine codeAny_compStart_list (loop _) ?_
  exact W.self 0 _ _ _ st4 (loop _)

/-- a list comprehension as an expression -/
theorem AV_listComp {C : Cx} {E : Value → Shared → Prop} {σ : AS} {x : Str} {px pos : Pos} {elt iter : Expr} {ifs : List Expr} {sc : Scope} {Q : PV → AS → Prop} (co : CompOk C sc x)
    (h : AV C (eval iter C.env) (fun p σ₁ => CompGives C sc x ifs elt Q p σ₁) E σ) (hs : ∀ x, foldedSetIterable iter C.env x = pure x := by intro _; rfl) :
    AV C (eval (.ListComp elt [⟨.Name x px, iter, ifs, 0⟩] sc pos) C.env) Q E σ := by
  intro s r
  have ok := r.1
  rw [eval_ListComp]
  have hclos : closureFor sc C.env = pure (closL C.env.cells sc.names []) := closureFor_eq fun n hn => ok.cvhas n (co.free n (lookup_of_mem co.nodup hn))
  refine wpAny_comprehension_free (use := none) rfl hs hclos co.kind (fun y hy hl => lookup_of_mem co.nodup (by rw [← hl]; exact hy)) (wpAG (h s r) (fun u s₁ p σ₁ hu r₁ h₁ => ?_) fun _ _ e => e)
  refine comp_core co hu r₁ h₁ (fun acc L => compPost (model C.G.prog C.G.w) C.A E none _ acc L) ?_
  rintro D L s' ⟨m, hm⟩ ⟨σ', r', hq, l1, l2, l3, l4⟩
  refine ⟨m, hm, fun h' hs' => ⟨.ref D, σ', .ref D, ?_, hq⟩⟩
  exact r'.toH (r'.heap.keepsBut (fun b o hb e => hs'.extBut b o hb e) l1 l2 l3 l4)

/-- x = [..]: whether the store goes ahead of the letting go or not -/
theorem AF_assign_listComp {C : Cx} {E : Value → Shared → Prop} {σ : AS} {x y : Str} {px py pos spos : Pos} {elt iter : Expr} {ifs : List Expr} {sc : Scope} {Q : PF → AS → Prop} (co : CompOk C sc x) (hy : C.wr y = true)
    (h : AV C (eval iter C.env) (fun p σ₁ => CompGives C sc x ifs elt (fun v σ₂ => Q .next (σ₂.st y v)) p σ₁) E σ) (hs : ∀ x, foldedSetIterable iter C.env x = pure x := by intro _; rfl) :
    AF C (exec (.Assign [.Name y py] (.ListComp elt [⟨.Name x px, iter, ifs, 0⟩] sc pos) spos) C.env) Q E σ := by
  obtain ⟨b, hb⟩ : ∃ b, swapsWith (.ListComp elt [⟨.Name x px, iter, ifs, 0⟩] sc pos) (some (.Name y py)) spos.line C.env = pure b := ⟨_, rfl⟩
  cases b with
  | false => exact AF_assign (AG.mono (AV_listComp co h hs) fun v σ' hq => ⟨hy, hq⟩) hb
  | true =>
    intro s r
    have ok := r.1
    rw [exec_Assign_Name_used _ _ _ _ hb]
    refine wpAny_bind (wpAny_standAt (wpAny_bind ?_))
    show wpAny _ C.A (do let _ ← comprehension (.ListComp elt [⟨.Name x px, iter, ifs, 0⟩] sc pos) sc C.env _ (newList []) false (eval iter C.env) (some (assign (.Name y py) C.env))) _ _ s
    have hclos : closureFor sc C.env = pure (closL C.env.cells sc.names []) := closureFor_eq fun n hn => ok.cvhas n (co.free n (lookup_of_mem co.nodup hn))
    refine wpAny_bind (wpAny_mono (wpAny_comprehension_free (use := some (assign (.Name y py) C.env)) (Q := fun _ s' => ∃ b σ', FR b Flow.next ∧ Rel C σ' s' ∧ Q b σ') rfl hs hclos co.kind (fun y hy hl => lookup_of_mem co.nodup (by rw [← hl]; exact hy))
      (wpAG (h s r) (fun u s₁ p σ₁ hu r₁ h₁ => ?_) fun _ _ e => e)) (fun _ s' hq => wpAny_pure (wpAny_pure hq)) fun _ _ e => e)
    refine comp_core co hu r₁ h₁ (fun acc L => compPost (model C.G.prog C.G.w) C.A E (some (assign (.Name y py) C.env)) _ acc L) ?_
    rintro D L s' ⟨m, hm⟩ ⟨σ', r', hq, l1, l2, l3, l4⟩
    show wpAny _ C.A (assign (.Name y py) C.env (.ref D)) _ _ _
    refine wpAny_assign_Name ?_
    have r2 := r'.freeze l1 l2 l3 l4
    refine wpAG (AU_store (C := C.with (addFz C.fz L (s'.heap.get? L))) (v := .ref D) (Q := fun _ σ'' => σ'' = σ'.st y (.ref D)) hy (.ref D) rfl _ r2) (fun _ s4 _ σ4 _ r4 e4 => ?_) fun _ _ e => e
    subst e4
    refine ⟨m, ?_, fun h' hs' => ⟨.next, _, .next, ?_, hq⟩⟩
    · obtain ⟨o, es, ep, ho, hr⟩ := hm
      exact ⟨o, es, ep, r4.heap.keep L o (by dsimp only [Cx.with, addFz]; rw [if_pos rfl]; exact ho), hr⟩
    · have r5 : Rel C (σ'.st y (.ref D)) s4 := r4.less ok (addFz_le l1)
      exact r5.toH (r5.heap.keepsBut (fun b o hb e => hs'.extBut b o hb e) l1 l2 l3 l4)

end Mine

namespace Mine

/-- what an abstract value reads as -/
inductive RD (hp : Addr → Option PO) : PV → PyData → Prop where
  | str (s : Str) : RD hp (.str s) (.str s)
  | numL {a : Addr} {xs : List Int} : hp a = some (.list (nums xs)) → RD hp (.ref a) (.list (xs.map .int))
  | rows {a : Addr} {as : List Addr} {rs : List (List Int)} : hp a = some (.list (as.map .ref)) → as.length = rs.length → (∀ (i : Nat) (b : Addr) (r : List Int), as[i]? = some b → rs[i]? = some r → hp b = some (.list (nums r))) →
      RD hp (.ref a) (.list (rs.map fun r => .list (r.map .int)))

theorem readsAll_nums {h : Heap} : ∀ {ws : List Value} {xs : List Int}, VRs (nums xs) ws → ReadsAll h ws (xs.map .int) [] := by
  intro ws xs
  induction xs generalizing ws with
  | nil => intro h; cases h; exact .nil
  | cons x xs ih =>
    intro hv
    cases hv with
    | cons h1 h2 => cases h1; exact .cons (.int _ _) (ih h2)

theorem reads_nums {C : Cx} {σ : AS} {h : Heap} (r : RelH C σ h) {a : Addr} {xs : List Int} (ha : σ.hp a = some (.list (nums xs))) : Reads h (.ref a) (.list (xs.map .int)) [a] := by
  obtain ⟨ob, ho, ws, n, rfl, hv⟩ := r.obj a _ ha
  exact .list ho rfl rfl (readsAll_nums (by simpa using hv))

theorem RD.reads {C : Cx} {σ : AS} {h : Heap} (r : RelH C σ h) {p : PV} {d : PyData} {u : Value} (hd : RD σ.hp p d) (hu : VR p u) : ∃ as, Reads h u d as := by
  cases hd with
  | str s => cases hu; exact ⟨_, .str _ _⟩
  | numL ha => cases hu; exact ⟨_, reads_nums r ha⟩
  | @rows a as rs ha hl hr =>
    cases hu
    obtain ⟨ob, ho, ws, n, rfl, hv⟩ := r.obj a _ ha
    have : ∀ (as : List Addr) (rs : List (List Int)) (ws : List Value), VRs (as.map .ref) ws → as.length = rs.length → (∀ (i : Nat) (b : Addr) (q : List Int), as[i]? = some b → rs[i]? = some q → σ.hp b = some (.list (nums q))) →
        ∃ bs, ReadsAll h ws (rs.map fun r => .list (r.map .int)) bs := by
      intro as
      induction as with
      | nil =>
        intro rs ws hv hl _
        cases hv
        cases rs with
        | nil => exact ⟨_, .nil⟩
        | cons _ _ => cases hl
      | cons b as ih =>
        intro rs ws hv hl hr
        cases rs with
        | nil => cases hl
        | cons q rs =>
          cases hv with
          | cons h1 h2 =>
            cases h1
            obtain ⟨bs, hbs⟩ := ih rs _ h2 (by simpa using hl) fun i b' q' h1 h2 => hr (i + 1) b' q' (by simpa using h1) (by simpa using h2)
            exact ⟨_, .cons (reads_nums r (hr 0 b q rfl rfl)) hbs⟩
    obtain ⟨bs, hbs⟩ := this as rs ws hv hl hr
    exact ⟨_, .list ho rfl rfl (by simpa using hbs)⟩

theorem canLay_nums (xs : List Int) : PyData.canLayAll0 (xs.map .int) = true := by
  induction xs with
  | nil => rfl
  | cons x l ih => simp [PyData.canLayAll0, PyData.canLay0, ih]
theorem depth_nums (xs : List Int) : PyData.depthAll (xs.map .int) = 0 := by
  induction xs with
  | nil => rfl
  | cons x l ih => simp [PyData.depthAll, PyData.depth, ih]
theorem RD.ok {hp : Addr → Option PO} {p : PV} {d : PyData} (h : RD hp p d) (hs : ∀ s, p = .str s → PyData.strOk s = true) : d.canLay0 = true ∧ d.depth ≤ 2 := by
  cases h with
  | str s => exact ⟨hs s rfl, by simp [PyData.depth]⟩
  | @numL a xs _ => exact ⟨canLay_nums xs, by simp [PyData.depth, depth_nums]⟩
  | @rows a as rs _ _ _ =>
    have e1 : ∀ l : List (List Int), PyData.canLayAll0 (l.map fun r => .list (r.map .int)) = true := by
      intro l; induction l with
      | nil => rfl
      | cons x l ih => simp [PyData.canLayAll0, PyData.canLay0, canLay_nums, ih]
    have e2 : ∀ l : List (List Int), PyData.depthAll (l.map fun r => .list (r.map .int)) ≤ 1 := by
      intro l; induction l with
      | nil => simp [PyData.depthAll]
      | cons x l ih => simp only [List.map_cons, PyData.depthAll, PyData.depth, depth_nums]; omega
    refine ⟨e1 rs, ?_⟩
    simp only [PyData.depth]
    have := e2 rs
    omega

theorem eqv_nums (xs ys : List Int) : PyData.eqvAll (xs.map .int) (ys.map .int) = decide (xs = ys) := by
  induction xs generalizing ys with
  | nil => cases ys <;> simp [PyData.eqvAll]
  | cons x xs ih =>
    cases ys with
    | nil => simp [PyData.eqvAll]
    | cons y ys =>
      simp only [List.map_cons, PyData.eqvAll, PyData.eqv, ih, List.cons.injEq]
      by_cases h1 : x = y <;> by_cases h2 : xs = ys <;> simp [h1, h2]

theorem eqv_rows (xs ys : List (List Int)) : PyData.eqvAll (xs.map fun r => .list (r.map .int)) (ys.map fun r => .list (r.map .int)) = decide (xs = ys) := by
  induction xs generalizing ys with
  | nil => cases ys <;> simp [PyData.eqvAll]
  | cons x xs ih =>
    cases ys with
    | nil => simp [PyData.eqvAll]
    | cons y ys =>
      simp only [List.map_cons, PyData.eqvAll, PyData.eqv, ih, eqv_nums, List.cons.injEq]
      by_cases h1 : x = y <;> by_cases h2 : xs = ys <;> simp [h1, h2]

section
variable {C : Cx} {E : Value → Shared → Prop} {σ : AS}

theorem B_eq {p q : PV} {d d' : PyData} {Q : PV → AS → Prop} (hp : RD σ.hp p d) (hq : RD σ.hp q d') (h1 : ∀ s, p = .str s → PyData.strOk s = true) (h2 : ∀ s, q = .str s → PyData.strOk s = true)
    (h : Q (.bool (PyData.eqv d d')) σ) : ABin C (compareOp .Eq) p q Q E σ := fun a b ha hb s r => by
  obtain ⟨as, ra⟩ := hp.reads r.heap ha
  obtain ⟨bs, rb⟩ := hq.reads r.heap hb
  have u := r.1.units
  have := (hp.ok h1).2
  exact SeqAt.compareEq_reads ra rb (hp.ok h1).1 (hq.ok h2).1 (by omega) ⟨_, σ, .bool _, r, h⟩
theorem B_ne {p q : PV} {d d' : PyData} {Q : PV → AS → Prop} (hp : RD σ.hp p d) (hq : RD σ.hp q d') (h1 : ∀ s, p = .str s → PyData.strOk s = true) (h2 : ∀ s, q = .str s → PyData.strOk s = true)
    (h : Q (.bool (!PyData.eqv d d')) σ) : ABin C (compareOp .NotEq) p q Q E σ := fun a b ha hb s r => by
  obtain ⟨as, ra⟩ := hp.reads r.heap ha
  obtain ⟨bs, rb⟩ := hq.reads r.heap hb
  have u := r.1.units
  have := (hp.ok h1).2
  exact SeqAt.compareNe_reads ra rb (hp.ok h1).1 (hq.ok h2).1 (by omega) ⟨_, σ, .bool _, r, h⟩

theorem B_eqL {a b : Addr} {xs ys : List Int} {Q : PV → AS → Prop} (ha : σ.hp a = some (.list (nums xs))) (hb : σ.hp b = some (.list (nums ys))) (h : Q (.bool (decide (xs = ys))) σ) : ABin C (compareOp .Eq) (.ref a) (.ref b) Q E σ := by
  refine B_eq (.numL ha) (.numL hb) (by intro s e; cases e) (by intro s e; cases e) ?_
  simp only [PyData.eqv, eqv_nums]; exact h
theorem B_neL {a b : Addr} {xs ys : List Int} {Q : PV → AS → Prop} (ha : σ.hp a = some (.list (nums xs))) (hb : σ.hp b = some (.list (nums ys))) (h : Q (.bool (!decide (xs = ys))) σ) : ABin C (compareOp .NotEq) (.ref a) (.ref b) Q E σ := by
  refine B_ne (.numL ha) (.numL hb) (by intro s e; cases e) (by intro s e; cases e) ?_
  simp only [PyData.eqv, eqv_nums]; exact h
theorem B_eqS {s t : Str} {Q : PV → AS → Prop} (hs : PyData.strOk s = true) (ht : PyData.strOk t = true) (h : Q (.bool (s == t)) σ) : ABin C (compareOp .Eq) (.str s) (.str t) Q E σ := by
  refine B_eq (.str s) (.str t) (by intro _ e; cases e; exact hs) (by intro _ e; cases e; exact ht) ?_
  simp only [PyData.eqv]; exact h
end
end Mine

namespace Mine

def fnAt (p : Program) (i : Nat) (a : Addr) : Fn := match p.main.body[i]? with
  | some (.FunctionDef name args body _ _ _ scope _ _ _) => ⟨a, name, args, body, scope⟩
  | _ => ⟨a, Str.empty, { posonlyargs := [], args := [], vararg := none, kwonlyargs := [], kw_defaults := [], kwarg := none, defaults := [] }, [], default⟩

theorem loc_at {σ : AS} {x : Str} {v v' : PV} (h : v = v') : (σ.st x v).loc x = some v' := by simp [AS.st, updS, h]
theorem pv_int {a b : Int} (h : a = b) : PV.int a = PV.int b := by rw [h]
/-! ## looking up -/
theorem loc_here {σ : AS} {x : Str} {v : PV} : (σ.st x v).loc x = some v := by simp [AS.st, updS]
theorem loc_skip {σ : AS} {x y : Str} {v : PV} {r : Option PV} (h : y ≠ x) (e : σ.loc y = r) : (σ.st x v).loc y = r := by simp [AS.st, updS, h, e]
theorem loc_pt {σ : AS} {y : Str} {a : Addr} {o : PO} {r : Option PV} (e : σ.loc y = r) : (σ.pt a o).loc y = r := e
theorem updS_here {f : Str → Option PV} {x : Str} {v : PV} : updS f x v x = some v := by simp [updS]
theorem updS_skip {f : Str → Option PV} {x y : Str} {v : PV} {r : Option PV} (h : y ≠ x) (e : f y = r) : updS f x v y = r := by simp [updS, h, e]
theorem locC_free {sc : Scope} {f : Str → Option PV} {y : Str} {r : Option PV} (h : sc.names.lookup y = some .free) (e : f y = r) : locC sc f y = r := by simp [locC, h, e]
theorem hp_here {σ : AS} {a : Addr} {o : PO} : (σ.pt a o).hp a = some o := by simp [AS.pt, upd]
theorem hp_st {σ : AS} {x : Str} {v : PV} {a : Addr} {r : Option PO} (e : σ.hp a = r) : (σ.st x v).hp a = r := e
theorem hp_new {σ : AS} {a b : Addr} {o : PO} {p : PO} (hn : σ.hp a = none) (e : σ.hp b = some p) : (σ.pt a o).hp b = some p := by
  have : b ≠ a := by rintro rfl; rw [hn] at e; cases e
  simp [AS.pt, upd, this, e]
theorem hp_skip {σ : AS} {a b : Addr} {o : PO} {r : Option PO} (h : b ≠ a) (e : σ.hp b = r) : (σ.pt a o).hp b = r := by simp [AS.pt, upd, h, e]
theorem upd_here {f : Addr → Option PO} {a : Addr} {o : PO} : upd f a o a = some o := by simp [upd]
theorem upd_new {f : Addr → Option PO} {a b : Addr} {o p : PO} (hn : f a = none) (e : f b = some p) : upd f a o b = some p := by
  have : b ≠ a := by rintro rfl; rw [hn] at e; cases e
  simp [upd, this, e]
theorem upd_skip {f : Addr → Option PO} {a b : Addr} {o : PO} {r : Option PO} (h : b ≠ a) (e : f b = r) : upd f a o b = r := by simp [upd, h, e]

/-- where the walk stands in a function's frame: what it may store, read, call -/
structure In (G : Gl) (f : Fn) (C : Cx) : Prop where
  G : C.G = G
  wr : C.wr = wrOf f.scope.names
  gl : C.gl = glOf f.scope.names
  cv : C.cv = cvOf f.scope.names
  hd : C.hd = true
theorem FnCx.in {C₀ C : Cx} {f : Fn} (h : FnCx C₀ f C) (hd : C₀.hd = true) : In C₀.G f C := ⟨h.G, h.wr, h.gl, h.cv, h.hd.trans hd⟩
theorem In.like {G : Gl} {f : Fn} {C C' : Cx} (h : In G f C) (l : Like C C') : In G f C' := ⟨l.G.trans h.G, l.wr.trans h.wr, l.gl.trans h.gl, l.cv.trans h.cv, l.hd.trans h.hd⟩
theorem In.w {G : Gl} {f : Fn} {C : Cx} (h : In G f C) {x : Str} (e : wrOf f.scope.names x = true) : C.wr x = true := by rw [h.wr]; exact e
theorem In.g {G : Gl} {f : Fn} {C : Cx} (h : In G f C) {x : Str} (e : glOf f.scope.names x = true) : C.gl x = true := by rw [h.gl]; exact e
theorem In.gt {G : Gl} {f : Fn} {C : Cx} (h : In G f C) {x : Str} {v : Value} (e : G.gt x = some v) : C.G.gt x = some v := by rw [h.G]; exact e


/-- all that stood stands -/
def Ext (f g : Addr → Option PO) : Prop := ∀ a o, f a = some o → g a = some o
theorem Ext.refl (f : Addr → Option PO) : Ext f f := fun _ _ e => e
theorem Ext.trans {f g k : Addr → Option PO} (h : Ext f g) (h' : Ext g k) : Ext f k := fun a o e => h' a o (h a o e)
theorem Ext.upd {f g : Addr → Option PO} {a : Addr} {o : PO} (h : Ext f g) (hn : g a = none) : Ext f (upd g a o) := fun b p e => upd_new hn (h b p e)
theorem Ext.pt {f : Addr → Option PO} {σ : AS} {a : Addr} {o : PO} (h : Ext f σ.hp) (hn : σ.hp a = none) : Ext f (σ.pt a o).hp := fun b p e => hp_new hn (h b p e)
theorem Ext.st {f : Addr → Option PO} {σ : AS} {x : Str} {v : PV} (h : Ext f σ.hp) : Ext f (σ.st x v).hp := h

theorem ite_t {c : Bool} {A B : Prop} (h : c = true) (a : A) : if c = true then A else B := by rw [if_pos h]; exact a
theorem ite_f {c : Bool} {A B : Prop} (h : c = false) (b : B) : if c = true then A else B := by rw [if_neg (by rw [h]; exact Bool.false_ne_true)]; exact b

theorem len1 {α : Type} {us : List α} (h : us.length = 1) : ∃ a, us = [a] := by
  cases us with
  | nil => cases h
  | cons a us => exact ⟨a, by rw [List.eq_nil_of_length_eq_zero (Nat.succ.inj h)]⟩
theorem len2 {α : Type} {us : List α} (h : us.length = 2) : ∃ a b, us = [a, b] := by
  cases us with
  | nil => cases h
  | cons a us => obtain ⟨b, rfl⟩ := len1 (Nat.succ.inj h); exact ⟨a, b, rfl⟩
end Mine

namespace Mine
open SetTable

/-! ## the places of a set's table -/
def posOf (l : List Nat) (j : Nat) : Nat := (l.takeWhile (fun x => decide (x < j))).length

theorem posOf_le (l : List Nat) (j : Nat) : posOf l j ≤ l.length := by
  unfold posOf
  exact (List.takeWhile_prefix _).length_le

theorem posOf_cons_lt {x j : Nat} {l : List Nat} (h : x < j) : posOf (x :: l) j = posOf l j + 1 := by
  unfold posOf; rw [List.takeWhile_cons, if_pos (by simpa using h)]; rfl
theorem posOf_cons_ge {x j : Nat} {l : List Nat} (h : ¬ x < j) : posOf (x :: l) j = 0 := by
  unfold posOf; rw [List.takeWhile_cons, if_neg (by simpa using h)]; rfl

theorem posOf_lt {l : List Nat} {j : Nat} : ∀ i (h : i < l.length), i < posOf l j → l[i] < j := by
  induction l with
  | nil => intro i h; simp at h
  | cons x l ih =>
    intro i h hi
    by_cases hx : x < j
    · rw [posOf_cons_lt hx] at hi
      cases i with
      | zero => exact hx
      | succ i => exact ih i (by simpa using h) (by omega)
    · rw [posOf_cons_ge hx] at hi; omega

theorem posOf_ge {l : List Nat} {j : Nat} (hs : l.Pairwise (· < ·)) : ∀ i (h : i < l.length), posOf l j ≤ i → j ≤ l[i] := by
  induction l with
  | nil => intro i h; simp at h
  | cons x l ih =>
    intro i h hi
    rw [List.pairwise_cons] at hs
    by_cases hx : x < j
    · rw [posOf_cons_lt hx] at hi
      cases i with
      | zero => omega
      | succ i => exact ih hs.2 i (by simpa using h) (by omega)
    · cases i with
      | zero => simp; omega
      | succ i =>
        have hl : i < l.length := by simpa using h
        have := hs.1 l[i] (List.getElem_mem hl)
        simp; omega

theorem below_go {xs : Array Nat} {j c : Nat} (hc : c ≤ xs.size) (h1 : ∀ i (h : i < xs.size), i < c → xs[i] < j) (h2 : ∀ i (h : i < xs.size), c ≤ i → j ≤ xs[i]) :
    ∀ fuel lo hi, lo ≤ c → c ≤ hi → hi ≤ xs.size → hi - lo ≤ fuel → below.go xs j fuel lo hi = c
  | 0, lo, hi, a, b, d, e => by unfold below.go; omega
  | fuel + 1, lo, hi, a, b, d, e => by
    unfold below.go
    split
    · next hlt =>
      have hm : (lo + hi) / 2 < xs.size := by omega
      have hg : xs.getD ((lo + hi) / 2) j = xs[(lo + hi) / 2] := by simp [Array.getD, hm]
      dsimp only
      rw [hg]
      split
      · next hx =>
        have : ¬ c ≤ (lo + hi) / 2 := fun h => absurd (h2 _ hm h) (by omega)
        exact below_go hc h1 h2 fuel _ _ (by omega) b d (by omega)
      · next hx =>
        have : ¬ (lo + hi) / 2 < c := fun h => absurd (h1 _ hm h) hx
        exact below_go hc h1 h2 fuel _ _ a (by omega) (by omega) (by omega)
    · omega

theorem below_eq {xs : Array Nat} {j : Nat} (hs : xs.toList.Pairwise (· < ·)) : below xs j = posOf xs.toList j := by
  unfold below
  refine below_go (by simpa using posOf_le xs.toList j) (fun i h hi => ?_) (fun i h hi => ?_) _ _ _ (Nat.zero_le _) (by simpa using posOf_le xs.toList j) (Nat.le_refl _) (by omega)
  · have := posOf_lt (l := xs.toList) (j := j) i (by simpa using h) hi; simpa using this
  · have := posOf_ge (l := xs.toList) (j := j) hs i (by simpa using h) hi; simpa using this

theorem posOf_mem {l : List Nat} {j : Nat} (hs : l.Pairwise (· < ·)) : l[posOf l j]? = some j ↔ j ∈ l := by
  constructor
  · intro h; exact List.mem_of_getElem? h
  · intro h
    obtain ⟨i, hi, rfl⟩ := List.getElem_of_mem h
    have : posOf l l[i] = i := by
      rcases Nat.lt_trichotomy (posOf l l[i]) i with h | h | h
      · have h1 := posOf_ge hs (posOf l l[i]) (Nat.lt_trans h hi) (Nat.le_refl _)
        have h2 := List.pairwise_iff_getElem.mp hs (posOf l l[i]) i (Nat.lt_trans h hi) hi h
        omega
      · exact h
      · have := posOf_lt i hi h; omega
    rw [this]; simp

theorem slot_eq {t : SetTable} (hd : t.dummies = #[]) (hs : t.place.toList.Pairwise (· < ·)) (j : Nat) : t.slot j = if j ∈ t.place.toList then .live (posOf t.place.toList j) else .empty := by
  unfold SetTable.slot
  rw [below_eq hs]
  have e : t.place[posOf t.place.toList j]? = t.place.toList[posOf t.place.toList j]? := by simp
  dsimp only
  rw [e]
  by_cases hj : j ∈ t.place.toList
  · rw [(posOf_mem hs).mpr hj, if_pos hj]; simp
  · have : ¬ t.place.toList[posOf t.place.toList j]? = some j := fun h => hj ((posOf_mem hs).mp h)
    rw [if_neg hj, if_neg (by simpa using this), hd]
    simp [SetTable.has]

def insAt {α : Type} (l : List α) (p : Nat) (x : α) : List α := l.take p ++ x :: l.drop p
theorem insertAt_toList {α : Type} (xs : Array α) (p : Nat) (x : α) : (insertAt xs p x).toList = insAt xs.toList p x := by
  unfold insertAt insAt
  simp [List.take_of_length_le]

theorem insAt_sorted {l : List Nat} {j : Nat} (hs : l.Pairwise (· < ·)) (hj : j ∉ l) : (insAt l (posOf l j) j).Pairwise (· < ·) := by
  unfold insAt
  rw [List.pairwise_append, List.pairwise_cons]
  have h1 : ∀ x ∈ l.take (posOf l j), x < j := fun x hx => by
    obtain ⟨i, hi, rfl⟩ := List.getElem_of_mem hx
    rw [List.getElem_take]
    exact posOf_lt _ _ (by simp at hi; omega)
  have h2 : ∀ x ∈ l.drop (posOf l j), j < x := fun x hx => by
    obtain ⟨i, hi, rfl⟩ := List.getElem_of_mem hx
    rw [List.getElem_drop]
    have hl : posOf l j + i < l.length := by rw [List.length_drop] at hi; omega
    have h := posOf_ge (j := j) hs (posOf l j + i) hl (Nat.le_add_right _ _)
    have hne : l[posOf l j + i]'(by simp at hi; omega) ≠ j := fun e => hj (by rw [← e]; exact List.getElem_mem _)
    omega
  refine ⟨hs.sublist (List.take_sublist _ _), ⟨h2, hs.sublist (List.drop_sublist _ _)⟩, ?_⟩
  intro a ha b hb
  rcases List.mem_cons.mp hb with rfl | hb
  · exact h1 a ha
  · exact Nat.lt_trans (h1 a ha) (h2 b hb)

/-! ## looking for a free slot -/
def lcg (i : Nat) : Nat := (i * 5 + 1) % 8
def lcgN : Nat → Nat → Nat
  | 0, i => i
  | n + 1, i => lcgN n (lcg i)
theorem lcg_all : ∀ i j : Fin 8, ∃ n : Fin 8, lcgN n.1 i.1 = j.1 := by decide

theorem bits_small {n : Nat} (h : n < 32) : bits (n : Int) = n := by
  unfold bits
  have : ((n : Int) % (2 ^ 64 : Int)) = n := Int.emod_eq_of_lt (by omega) (by omega)
  rw [this]; simp

theorem probe_go_small {t : SetTable} (hm : t.mask = 7) (hd : t.dummies = #[]) (hs : t.place.toList.Pairwise (· < ·)) {h : Int} {f : Nat → Int} (hf : ∀ i, (f i == h) = false) :
    ∀ (n fuel i pt : Nat), i < 8 → pt < 32 → n < fuel → lcgN n i ∉ t.place.toList → ∃ j, j < 8 ∧ j ∉ t.place.toList ∧ probe.go t f h fuel { j := i, more := 0, i := i, perturb := pt, dummy := none } = some (.empty j none) := by
  intro n
  induction n with
  | zero =>
    intro fuel i pt hi hp hn hfree
    cases fuel with
    | zero => omega
    | succ fuel =>
      refine ⟨i, hi, hfree, ?_⟩
      unfold probe.go
      dsimp only
      rw [slot_eq hd hs, if_neg (show i ∉ t.place.toList from hfree)]
  | succ n ih =>
    intro fuel i pt hi hp hn hfree
    cases fuel with
    | zero => omega
    | succ fuel =>
      unfold probe.go
      dsimp only
      rw [slot_eq hd hs]
      by_cases hmem : i ∈ t.place.toList
      · rw [if_pos hmem]
        dsimp only
        rw [hf]
        simp only [Bool.false_eq_true, if_false]
        have hadv : t.advance { j := i, more := 0, i := i, perturb := pt, dummy := none } = { j := lcg i, more := 0, i := lcg i, perturb := pt / 32, dummy := none } := by
          unfold SetTable.advance
          simp only [gt_iff_lt, Nat.lt_irrefl, if_false, leap, hm, runEnd, lcg]
          have e : pt / 32 = 0 := by omega
          rw [e]
          have e2 : (i * 5 + 1 + 0) % (7 + 1) = (i * 5 + 1) % 8 := rfl
          rw [e2]
          have hlt : (i * 5 + 1) % 8 < 8 := Nat.mod_lt _ (by omega)
          have hn9 : ¬ ((i * 5 + 1) % 8 + 9 ≤ 7) := by omega
          rw [if_neg hn9]
          simp
        rw [hadv]
        exact ih fuel (lcg i) (pt / 32) (Nat.mod_lt _ (by omega)) (by omega) (by omega) hfree
      · exact ⟨i, hi, hmem, by rw [if_neg hmem]⟩

theorem nodup_le {α : Type} [DecidableEq α] : ∀ (l₁ l₂ : List α), l₁.Nodup → (∀ x ∈ l₁, x ∈ l₂) → l₁.length ≤ l₂.length
  | [], _, _, _ => Nat.zero_le _
  | x :: l₁, l₂, hn, hs => by
    rw [List.nodup_cons] at hn
    have hx := hs x (.head _)
    have h := nodup_le l₁ (l₂.erase x) hn.2 fun y hy => (List.mem_erase_of_ne (by rintro rfl; exact hn.1 hy)).mpr (hs y (.tail _ hy))
    rw [List.length_erase_of_mem hx] at h
    have : 0 < l₂.length := List.length_pos_of_mem hx
    simp only [List.length_cons]
    omega

theorem exists_free {l : List Nat} (hn : l.length ≤ 7) : ∃ j, j < 8 ∧ j ∉ l := by
  apply Classical.byContradiction
  intro h
  have hall : ∀ j, j < 8 → j ∈ l := fun j hj => Classical.byContradiction fun hm => h ⟨j, hj, hm⟩
  have : (List.range 8).Nodup := List.nodup_range
  have := nodup_le (List.range 8) l this fun j hj => hall j (by simpa using hj)
  simp at this
  omega

theorem freeSlot_small {t : SetTable} (hm : t.mask = 7) (hd : t.dummies = #[]) (hs : t.place.toList.Pairwise (· < ·)) (hn : t.place.size ≤ 7) {h : Nat} (hh : h < 32) :
    ∃ j, j < 8 ∧ j ∉ t.place.toList ∧ t.freeSlot (h : Int) = some (j, false) := by
  obtain ⟨k, hk, hkf⟩ := exists_free (l := t.place.toList) (by simpa using hn)
  obtain ⟨n, hn'⟩ := lcg_all ⟨h % 8, Nat.mod_lt _ (by omega)⟩ ⟨k, hk⟩
  have hstart : t.probeStart (h : Int) = { j := h % 8, more := 0, i := h % 8, perturb := h, dummy := none } := by
    unfold SetTable.probeStart
    rw [bits_small hh, hm]
    have hn9 : ¬ (h % 8 + 9 ≤ 7) := by omega
    simp [runEnd, hn9]
  obtain ⟨j, h1, h2, h3⟩ := probe_go_small (f := fun _ => (h : Int) + 1) (h := (h : Int)) hm hd hs (fun _ => by simp; omega) n.1 (10 * turns t.mask) (h % 8) h (Nat.mod_lt _ (by omega)) hh (by rw [hm]; unfold turns; have := n.2; omega) (by rw [hn']; exact hkf)
  refine ⟨j, h1, h2, ?_⟩
  unfold SetTable.freeSlot SetTable.probe
  rw [hstart, h3]
  rfl

theorem freeSlot_big {t : SetTable} (hd : t.dummies = #[]) (hs : t.place.toList.Pairwise (· < ·)) {h : Nat} (hh : h < 32) (hm : h ≤ t.mask) (hf : h ∉ t.place.toList) : t.freeSlot (h : Int) = some (h, false) := by
  unfold SetTable.freeSlot SetTable.probe
  have e : h % (t.mask + 1) = h := Nat.mod_eq_of_lt (by omega)
  have : t.probeStart (h : Int) = { j := h, more := runEnd t.mask h - h, i := h, perturb := h, dummy := none } := by
    unfold SetTable.probeStart
    rw [bits_small hh, e]
  rw [this]
  have ht : 10 * turns t.mask = (10 * turns t.mask - 1) + 1 := by unfold turns; omega
  rw [ht]
  unfold probe.go
  dsimp only
  rw [slot_eq hd hs, if_neg hf]
  rfl


/-! ## laying a table anew -/
theorem lay_free_small {owner : Array (Option Nat)} (hsz : owner.size = 8) : ∀ (n fuel i pt : Nat), i < 8 → pt < 32 → n < fuel → owner.getD (lcgN n i) (some 0) = none →
    ∃ j, j < 8 ∧ owner[j]? = some none ∧ layClean.free 7 owner fuel i pt = some j := by
  have got : ∀ i, i < 8 → (owner.getD i (some 0)).isNone = true → owner[i]? = some none := fun i hi h => by
    have hi' : i < owner.size := by omega
    simp only [Array.getD, hi', dif_pos] at h
    simp only [Array.getElem?_eq_getElem hi']
    simpa using h
  intro n
  induction n with
  | zero =>
    intro fuel i pt hi hp hn hfree
    cases fuel with
    | zero => omega
    | succ fuel =>
      refine ⟨i, hi, got i hi (by rw [show owner.getD i (some 0) = none from hfree]; rfl), ?_⟩
      unfold layClean.free
      have hn9 : ¬ (i + 9 ≤ 7) := by omega
      simp only [runEnd, hn9, if_false]
      rw [show i + 1 - i = 1 by omega]
      rw [show List.range 1 = [0] from rfl, List.find?_cons, Nat.add_zero, show owner.getD i (some 0) = none from hfree]
      rfl
  | succ n ih =>
    intro fuel i pt hi hp hn hfree
    cases fuel with
    | zero => omega
    | succ fuel =>
      unfold layClean.free
      have hn9 : ¬ (i + 9 ≤ 7) := by omega
      simp only [runEnd, hn9, if_false]
      rw [show i + 1 - i = 1 by omega]
      cases hg : (owner.getD i (some 0)).isNone with
      | true =>
        refine ⟨i, hi, got i hi hg, ?_⟩
        rw [show List.range 1 = [0] from rfl, List.find?_cons, Nat.add_zero, hg]
        rfl
      | false =>
        obtain ⟨j, h1, h2, h3⟩ := ih fuel (lcg i) (pt / 32) (Nat.mod_lt _ (by omega)) (by omega) (by omega) hfree
        refine ⟨j, h1, h2, ?_⟩
        have e : pt / 32 = 0 := by omega
        rw [e] at h3
        rw [show List.range 1 = [0] from rfl, List.find?_cons, Nat.add_zero, hg]
        simp only [List.find?_nil, leap, e]
        exact h3

/-- the slots that were taken, one by one -/
structure Laid (mask : Nat) (js : List Nat) (owner : Array (Option Nat)) : Prop where
  size : owner.size = mask + 1
  nodup : js.Nodup
  lt : ∀ j ∈ js, j < mask + 1
  at_ : ∀ j, j < mask + 1 → owner[j]? = some (if j ∈ js then some (js.idxOf j) else none)

theorem Laid.new (mask : Nat) : Laid mask [] (Array.replicate (mask + 1) none) where
  size := by simp
  nodup := List.nodup_nil
  lt := by simp
  at_ := fun j hj => by simp [hj]

theorem Laid.add {mask : Nat} {js : List Nat} {owner : Array (Option Nat)} (L : Laid mask js owner) {j : Nat} (hj : j < mask + 1) (hn : j ∉ js) : Laid mask (js ++ [j]) (owner.setIfInBounds j (some js.length)) where
  size := by simp [L.size]
  nodup := by rw [List.nodup_append]; refine ⟨L.nodup, by simp, ?_⟩; intro a ha b hb; simp at hb; subst hb; rintro rfl; exact hn ha
  lt := fun i hi => by
    rcases List.mem_append.mp hi with h | h
    · exact L.lt i h
    · simp at h; subst h; exact hj
  at_ := fun i hi => by
    rw [Array.getElem?_setIfInBounds]
    by_cases hij : j = i
    · subst hij
      rw [if_pos rfl, if_pos (by rw [L.size]; exact hj)]
      simp [List.idxOf_append, hn]
    · rw [if_neg hij, L.at_ i hi]
      have hij' : i ≠ j := fun e => hij e.symm
      by_cases hm : i ∈ js
      · simp [hm, List.idxOf_append]
      · simp [hm, hij']

theorem Laid.taken {mask : Nat} {js : List Nat} {owner : Array (Option Nat)} (L : Laid mask js owner) {j : Nat} (hj : j < mask + 1) (h : owner[j]? = some none) : j ∉ js := fun hm => by
  rw [L.at_ j hj, if_pos hm] at h; cases h

theorem Laid.getD {mask : Nat} {js : List Nat} {owner : Array (Option Nat)} (L : Laid mask js owner) {j : Nat} (hj : j < mask + 1) (d : Option Nat) : owner.getD j d = if j ∈ js then some (js.idxOf j) else none := by
  have h := L.at_ j hj
  have hs : j < owner.size := by rw [L.size]; exact hj
  simp only [Array.getElem?_eq_getElem hs] at h
  simp only [Array.getD, hs, dif_pos]
  exact Option.some.inj h

/-- the slot that a hash takes -/
theorem lay_step {mask : Nat} {js : List Nat} {owner : Array (Option Nat)} (L : Laid mask js owner) {h : Nat} (hh : h < 12)
    (hm : (mask = 7 ∧ js.length ≤ 7) ∨ (15 ≤ mask ∧ h ∉ js)) : ∃ j, j < mask + 1 ∧ j ∉ js ∧ layClean.free mask owner (turns mask) (bits (h : Int) % (mask + 1)) (bits (h : Int)) = some j ∧ (15 ≤ mask → j = h) := by
  rw [bits_small (by omega)]
  rcases hm with ⟨rfl, hl⟩ | ⟨hm, hn⟩
  · obtain ⟨k, hk, hkf⟩ := exists_free (l := js) hl
    obtain ⟨n, hn'⟩ := lcg_all ⟨h % 8, Nat.mod_lt _ (by omega)⟩ ⟨k, hk⟩
    have hg : owner.getD (lcgN n.1 (h % 8)) (some 0) = none := by rw [hn', L.getD hk, if_neg hkf]
    obtain ⟨j, h1, h2, h3⟩ := lay_free_small L.size n.1 (turns 7) (h % 8) h (Nat.mod_lt _ (by omega)) (by omega) (by unfold turns; have := n.2; omega) hg
    exact ⟨j, h1, L.taken h1 h2, h3, fun hc => by omega⟩
  · have hlt : h < mask + 1 := by omega
    refine ⟨h, hlt, hn, ?_, fun _ => rfl⟩
    rw [Nat.mod_eq_of_lt hlt]
    have ht : turns mask = (turns mask - 1) + 1 := by unfold turns; omega
    rw [ht]
    unfold layClean.free
    have hg := L.getD hlt (some 0)
    rw [if_neg hn] at hg
    have hr : ∃ r, runEnd mask h + 1 - h = r + 1 := ⟨runEnd mask h - h, by unfold runEnd; split <;> omega⟩
    obtain ⟨r, hr⟩ := hr
    rw [hr, List.range_succ_eq_map, List.find?_cons, Nat.add_zero, hg]
    rfl

theorem lay_all {mask : Nat} : ∀ (hs : List Nat) (js : List Nat) (owner : Array (Option Nat)), Laid mask js owner → (∀ h ∈ hs, h < 12) → hs.Nodup → (∀ h ∈ hs, 15 ≤ mask → h ∉ js) →
    (mask = 7 ∧ js.length + hs.length ≤ 8 ∨ 15 ≤ mask) →
    ∃ ks owner', Laid mask (js ++ ks) owner' ∧ ks.length = hs.length ∧ (15 ≤ mask → ks = hs) ∧
      (hs.map (fun (h : Nat) => (h : Int))).foldl (init := some (owner, js.length)) (fun acc h => do
        let (owner, k) ← acc
        let j ← layClean.free mask owner (turns mask) (bits h % (mask + 1)) (bits h)
        pure (owner.setIfInBounds j (some k), k + 1)) = some (owner', (js ++ ks).length)
  | [], js, owner, L, _, _, _, _ => ⟨[], owner, by simpa using L, rfl, fun _ => rfl, by simp⟩
  | h :: hs, js, owner, L, hb, hnd, hfree, hm => by
    rw [List.nodup_cons] at hnd
    obtain ⟨j, h1, h2, h3, h4⟩ := lay_step L (hb h (.head _)) (by
      rcases hm with ⟨e, hl⟩ | hm
      · exact .inl ⟨e, by simp at hl; omega⟩
      · exact .inr ⟨hm, hfree h (.head _) hm⟩)
    obtain ⟨ks, owner', L', k1, k2, k3⟩ := lay_all hs (js ++ [j]) _ (L.add h1 h2) (fun x hx => hb x (.tail _ hx)) hnd.2 (fun x hx hmk => by
      rw [h4 hmk]
      intro hm'
      rcases List.mem_append.mp hm' with h' | h'
      · exact hfree x (.tail _ hx) hmk h'
      · simp at h'; subst h'; exact hnd.1 hx) (by
      rcases hm with ⟨e, hl⟩ | hm
      · exact .inl ⟨e, by simp at hl ⊢; omega⟩
      · exact .inr hm)
    refine ⟨j :: ks, owner', by simpa using L', by simp [k1], fun hmk => by rw [h4 hmk, k2 hmk], ?_⟩
    simp only [List.map_cons, List.foldl_cons]
    have e : (do
        let (owner, k) ← (some (owner, js.length) : Option (Array (Option Nat) × Nat))
        let j ← layClean.free mask owner (turns mask) (bits (h : Int) % (mask + 1)) (bits (h : Int))
        pure (owner.setIfInBounds j (some k), k + 1)) = some (owner.setIfInBounds j (some js.length), (js ++ [j]).length) := by
      simp [h3]
    rw [e, k3]
    simp


theorem perm_of_nodup {α : Type} [DecidableEq α] : ∀ (l₁ l₂ : List α), l₁.Nodup → l₂.Nodup → (∀ x, x ∈ l₁ ↔ x ∈ l₂) → l₁.Perm l₂
  | [], l₂, _, _, h => by
    cases l₂ with
    | nil => exact .nil
    | cons x l => exact absurd ((h x).mpr (.head _)) (by simp)
  | x :: l₁, l₂, h1, h2, h => by
    rw [List.nodup_cons] at h1
    have hx : x ∈ l₂ := (h x).mp (.head _)
    refine (List.Perm.cons x (perm_of_nodup l₁ (l₂.erase x) h1.2 (h2.erase x) fun y => ?_)).trans (List.perm_cons_erase hx).symm
    rw [h2.mem_erase_iff]
    constructor
    · intro hy
      exact ⟨by rintro rfl; exact h1.1 hy, (h y).mp (.tail _ hy)⟩
    · rintro ⟨hne, hy⟩
      rcases List.mem_cons.mp ((h y).mpr hy) with rfl | h'
      · exact absurd rfl hne
      · exact h'

theorem map_idxOf {α : Type} [DecidableEq α] (l : List α) (h : l.Nodup) : l.map (l.idxOf ·) = List.range l.length := by
  apply List.ext_getElem
  · simp
  · intro i h1 h2
    simp only [List.getElem_map, List.getElem_range]
    simp only [List.length_map] at h1
    exact h.idxOf_getElem i h1

/-- a table laid anew: the elements in the order of their places -/
theorem laid_ok {es : Array (Int × Value)} {hs : List Nat} {mask finger moves : Nat} {led plain : Bool} (he : es.toList.map (·.1) = hs.map (fun (h : Nat) => (h : Int))) (hb : ∀ h ∈ hs, h < 12) (hnd : hs.Nodup)
    (hm : mask = 7 ∧ hs.length ≤ 8 ∨ 15 ≤ mask) :
    ∃ t' order, SetTable.laid mask finger moves led plain (es.map (·.1)) = some (t', order) ∧ (order.filterMap (es[·]?)).toList.Perm es.toList ∧ order.toList.Perm (List.range es.size) ∧
      t'.mask = mask ∧ t'.dummies = #[] ∧ t'.finger = finger ∧ t'.led = led ∧ t'.moves = moves ∧ t'.plain = plain ∧ t'.place.size = es.size ∧ t'.place.toList.Pairwise (· < ·) ∧ (∀ j ∈ t'.place.toList, j < mask + 1) ∧
      (15 ≤ mask → t'.place.toList.map (fun (h : Nat) => (h : Int)) = (order.filterMap (es[·]?)).toList.map (·.1)) := by
  obtain ⟨ks, owner, L, k1, k2, k3⟩ := lay_all (mask := mask) hs [] _ (Laid.new mask) hb hnd (by simp) (by simpa using hm)
  simp only [List.nil_append, List.length_nil] at L k3
  have hlen : es.size = hs.length := by
    have := congrArg List.length he
    simpa using this
  have hclean : layClean mask (es.map (·.1)) = some owner := by
    unfold layClean
    rw [← Array.foldl_toList, Array.toList_map, he, k3]
    rfl
  let place := (List.range (mask + 1)).filter (fun j => decide (j ∈ ks))
  have hlive : (List.range (mask + 1)).filterMap (fun j => (owner.getD j none).map (j, ·)) = place.map (fun j => (j, ks.idxOf j)) := by
    have : ∀ l : List Nat, (∀ j ∈ l, j < mask + 1) → l.filterMap (fun j => (owner.getD j none).map (j, ·)) = (l.filter (fun j => decide (j ∈ ks))).map (fun j => (j, ks.idxOf j)) := by
      intro l
      induction l with
      | nil => intro _; rfl
      | cons j l ih =>
        intro hl
        have h := L.getD (hl j (.head _)) none
        have ih' := ih fun x hx => hl x (.tail _ hx)
        by_cases hj : j ∈ ks
        · rw [List.filterMap_cons, h, if_pos hj]
          simp only [Option.map_some, hj, decide_true, List.filter_cons_of_pos, List.map_cons, ih']
        · rw [List.filterMap_cons, h, if_neg hj]
          simp only [Option.map_none, hj, decide_false, ih']
          simp [hj]
    exact this _ (by simp)
  have hplace_nd : place.Nodup := List.nodup_range.filter _
  have hperm : place.Perm ks := perm_of_nodup _ _ hplace_nd L.nodup fun j => by
    simp only [place, List.mem_filter, List.mem_range, decide_eq_true_eq]
    exact ⟨fun h => h.2, fun h => ⟨L.lt j h, h⟩⟩
  have hord : (place.map (ks.idxOf ·)).Perm (List.range ks.length) := by
    rw [← map_idxOf ks L.nodup]
    exact hperm.map _
  have hks : ks.length = es.size := by rw [k1, hlen]
  refine ⟨{ mask := mask, place := ((place.map (fun j => (j, ks.idxOf j))).map (·.1)).toArray, dummies := #[], finger := finger, led := led, moves := moves, plain := plain }, ((place.map (fun j => (j, ks.idxOf j))).map (·.2)).toArray, ?_, ?_, ?_, rfl, rfl, rfl, rfl, rfl, rfl, ?_, ?_, ?_, ?_⟩
  · unfold SetTable.laid
    rw [hclean]
    simp only [Option.bind_eq_bind, Option.bind_some]
    rw [hlive]
    rfl
  · have e1 : ((place.map (fun j => (j, ks.idxOf j))).map (·.2)) = place.map (ks.idxOf ·) := by simp
    rw [e1]
    have : ((place.map (ks.idxOf ·)).filterMap (es[·]?)).Perm ((List.range es.size).filterMap (es[·]?)) := by
      rw [← hks]; exact hord.filterMap _
    rw [filterMap_getElem?_range] at this
    simpa using this
  · have e1 : ((place.map (fun j => (j, ks.idxOf j))).map (·.2)) = place.map (ks.idxOf ·) := by simp
    rw [e1, ← hks]
    simpa using hord
  · have : place.length = es.size := by rw [hperm.length_eq, hks]
    simpa using this
  · have : place.Pairwise (· < ·) := List.pairwise_lt_range.filter _
    simpa [Function.comp_def] using this
  · intro j hj
    have hj' : j ∈ place := by simpa [Function.comp_def] using hj
    simpa using (List.mem_filter.mp hj').1
  · intro hmk
    have hk := k2 hmk
    subst hk
    have e1 : ((place.map (fun j => (j, ks.idxOf j))).map (·.2)) = place.map (ks.idxOf ·) := by simp
    have e0 : ((place.map (fun j => (j, ks.idxOf j))).map (·.1)) = place := by simp [Function.comp_def]
    rw [e1, e0]
    have : ∀ l : List Nat, (∀ j ∈ l, j ∈ ks) → ((l.map (ks.idxOf ·)).filterMap (es[·]?)).map (·.1) = l.map (fun (h : Nat) => (h : Int)) := by
      intro l
      induction l with
      | nil => intro _; rfl
      | cons j l ih =>
        intro hl
        have hj := hl j (.head _)
        have hi : ks.idxOf j < ks.length := List.idxOf_lt_length_iff.mpr hj
        have hi' : ks.idxOf j < es.size := by omega
        have hv : (es[ks.idxOf j]).1 = (j : Int) := by
          have h1 := congrArg (fun l => l[ks.idxOf j]?) he
          simp only [List.getElem?_map] at h1
          rw [List.getElem?_eq_getElem (by simpa using hi'), List.getElem?_eq_getElem hi] at h1
          simp only [Option.map_some, Option.some.injEq, Array.getElem_toList] at h1
          rw [h1, List.getElem_idxOf hi]
        simp only [List.map_cons, List.filterMap_cons, Array.getElem?_eq_getElem hi', hv]
        rw [ih fun x hx => hl x (.tail _ hx)]
    have h := this place fun j hj => by simpa using (List.mem_filter.mp hj).2
    simpa using h.symm

end Mine

namespace Mine
open SetTable

theorem hashInt_small {k : Nat} (h : k < 12) : hashInt (k : Int) = k := by
  unfold hashInt
  have : k = 0 ∨ k = 1 ∨ k = 2 ∨ k = 3 ∨ k = 4 ∨ k = 5 ∨ k = 6 ∨ k = 7 ∨ k = 8 ∨ k = 9 ∨ k = 10 ∨ k = 11 := by omega
  rcases this with rfl | rfl | rfl | rfl | rfl | rfl | rfl | rfl | rfl | rfl | rfl | rfl <;> rfl

theorem Elems.of {S : Int → Bool} {es : Array (Int × Value)} (h : Elems S es) (prog : Program) (w : World) : ElemsOf (intKind prog w) es.toList := fun e he => by
  obtain ⟨k, tok, hk, rfl⟩ := h.each e he
  exact ⟨⟨k, by simp [intKind, Value.isInt], (hashInt_small hk).symm⟩, rfl⟩

/-- the hashes, as naturals -/
theorem Elems.nats {S : Int → Bool} {es : Array (Int × Value)} (h : Elems S es) : ∃ hs : List Nat, es.toList.map (·.1) = hs.map (fun (h : Nat) => (h : Int)) ∧ (∀ x ∈ hs, x < 12) ∧ hs.Nodup := by
  refine ⟨es.toList.map (·.1.toNat), ?_, ?_, ?_⟩
  · rw [List.map_map]
    apply List.map_congr_left
    intro e he
    obtain ⟨k, tok, hk, rfl⟩ := h.each e he
    simp
  · intro x hx
    obtain ⟨e, he, rfl⟩ := List.mem_map.mp hx
    obtain ⟨k, tok, hk, rfl⟩ := h.each e he
    simpa using hk
  · have : es.toList.map (·.1.toNat) = (es.toList.map (·.1)).map Int.toNat := by simp
    rw [this]
    have hn := h.nodup
    have hp : ∀ x ∈ es.toList.map (·.1), 0 ≤ x := fun x hx => by
      obtain ⟨e, he, rfl⟩ := List.mem_map.mp hx
      obtain ⟨k, tok, hk, rfl⟩ := h.each e he
      simp
    clear this
    generalize es.toList.map (·.1) = l at hn hp
    induction l with
    | nil => simp
    | cons x l ih =>
      rw [List.nodup_cons] at hn
      rw [List.map_cons, List.nodup_cons]
      refine ⟨fun hm => ?_, ih hn.2 fun y hy => hp y (.tail _ hy)⟩
      obtain ⟨y, hy, e⟩ := List.mem_map.mp hm
      have h1 := hp x (.head _)
      have h2 := hp y (.tail _ hy)
      have : y = x := by omega
      subst this
      exact hn.1 hy

theorem Elems.size_le {S : Int → Bool} {es : Array (Int × Value)} (h : Elems S es) : es.size ≤ 12 := by
  obtain ⟨hs, he, hb, hn⟩ := h.nats
  have := nodup_le hs (List.range 12) hn fun x hx => by simpa using hb x hx
  have e := congrArg List.length he
  simp at e this
  omega

theorem Elems.perm {S : Int → Bool} {es es' : Array (Int × Value)} (h : Elems S es) (p : es'.toList.Perm es.toList) : Elems S es' where
  each := fun e he => h.each e (p.mem_iff.mp he)
  nodup := (p.map (·.1)).nodup_iff.mpr h.nodup
  mem := fun k => (h.mem k).trans (p.map (·.1)).mem_iff.symm

theorem Elems.empty : Elems (fun _ => false) #[] := ⟨by simp, by simp, by simp⟩

theorem Elems.push {S : Int → Bool} {es : Array (Int × Value)} (h : Elems S es) {k : Nat} {tok : Tok} (hk : k < 12) (hS : S k = false) : Elems (fun j => S j || decide (j = k)) (es.push ((k : Int), .int k tok)) where
  each := fun e he => by
    simp only [Array.toList_push, List.mem_append, List.mem_singleton] at he
    rcases he with he | rfl
    · exact h.each e he
    · exact ⟨k, tok, hk, rfl⟩
  nodup := by
    simp only [Array.toList_push, List.map_append, List.map_cons, List.map_nil]
    rw [List.nodup_append]
    refine ⟨h.nodup, by simp, ?_⟩
    intro a ha b hb
    simp at hb
    subst hb
    rintro rfl
    rw [(h.mem _).mpr ha] at hS; cases hS
  mem := fun j => by
    simp only [Array.toList_push, List.map_append, List.map_cons, List.map_nil, List.mem_append, List.mem_singleton, Bool.or_eq_true, decide_eq_true_eq, h.mem]

theorem Tab.fits {S : Int → Bool} {es : Array (Int × Value)} {t : SetTable} (h : Tab es t) (he : Elems S es) : t.fits es.size = true := by
  unfold SetTable.fits
  have := he.size_le
  have : t.fill ≤ t.mask := by
    unfold SetTable.fill
    rw [h.dum, h.size]
    rcases h.mask with ⟨h1, h2⟩ | ⟨h1, _⟩
    · simp; omega
    · simp; omega
  simp [h.size, this]

theorem Tab.new (f m : Nat) (led : Bool) : Tab #[] (.fresh f m led) := ⟨rfl, rfl, rfl, .nil, by simp [SetTable.fresh], .inl ⟨rfl, by simp⟩⟩

theorem mem_place_big {S : Int → Bool} {es : Array (Int × Value)} {t : SetTable} (hS : Elems S es) (h : t.place.toList.map (fun (h : Nat) => (h : Int)) = es.toList.map (·.1)) {k : Nat} (hk : S k = false) : k ∉ t.place.toList := fun hm => by
  have : (k : Int) ∈ es.toList.map (·.1) := by rw [← h]; exact List.mem_map.mpr ⟨k, hm, rfl⟩
  rw [(hS.mem k).mpr this] at hk; cases hk

theorem put_eq {t : SetTable} (hd : t.dummies = #[]) (hs : t.place.toList.Pairwise (· < ·)) (j : Nat) :
    t.put j = ({ t with place := insertAt t.place (posOf t.place.toList j) j }, posOf t.place.toList j) := by
  unfold SetTable.put
  rw [below_eq hs]
  have : SetTable.has t.dummies j = false := by rw [hd]; simp [SetTable.has]
  dsimp only
  rw [this]
  rfl

theorem insAt_map {α β : Type} (f : α → β) (l : List α) (p : Nat) (x : α) : (insAt l p x).map f = insAt (l.map f) p (f x) := by
  unfold insAt; simp [List.map_take, List.map_drop]
theorem insAt_length {α : Type} (l : List α) (p : Nat) (x : α) : (insAt l p x).length = l.length + 1 := by
  unfold insAt; simp; omega
theorem insAt_mem {α : Type} {l : List α} {p : Nat} {x y : α} : y ∈ insAt l p x → y = x ∨ y ∈ l := by
  unfold insAt
  intro h
  rcases List.mem_append.mp h with h | h
  · exact .inr (List.mem_of_mem_take h)
  · rcases List.mem_cons.mp h with h | h
    · exact .inl h
    · exact .inr (List.mem_of_mem_drop h)

/-- one more element is laid: a table that may be too full -/
structure Tab1 (es : Array (Int × Value)) (t : SetTable) : Prop where
  plain : t.plain = true
  dum : t.dummies = #[]
  size : t.place.size = es.size
  rising : t.place.toList.Pairwise (· < ·)
  lt : ∀ j ∈ t.place.toList, j < t.mask + 1
  mask : (t.mask = 7 ∧ es.size ≤ 5) ∨ (15 ≤ t.mask ∧ t.place.toList.map (fun (h : Nat) => (h : Int)) = es.toList.map (·.1))

theorem layNew_ok {S : Int → Bool} {es : Array (Int × Value)} {t : SetTable} (he : Elems S es) (ht : Tab es t) {k : Nat} {tok : Tok} (hk : k < 12) (hS : S k = false) :
    ∃ es1 t1, layNew t es (k : Int) (.int k tok) = (es1, t1, false, false) ∧ Elems (fun j => S j || decide (j = k)) es1 ∧ Tab1 es1 t1 ∧ t1.led = t.led ∧ t1.moves = t.moves ∧ t1.finger = t.finger := by
  have hsz := he.size_le
  obtain ⟨j, hj, hjn, hjf, hbig⟩ : ∃ j, j < t.mask + 1 ∧ j ∉ t.place.toList ∧ t.freeSlot (k : Int) = some (j, false) ∧ (15 ≤ t.mask → j = k) := by
    rcases ht.mask with ⟨h1, h2⟩ | ⟨h1, h2⟩
    · obtain ⟨j, a, b, c⟩ := freeSlot_small h1 ht.dum ht.rising (by rw [ht.size]; omega) (show k < 32 by omega)
      exact ⟨j, by omega, b, c, fun h => by omega⟩
    · have hn := mem_place_big he h2 hS
      exact ⟨k, by omega, hn, freeSlot_big ht.dum ht.rising (by omega) (by omega) hn, fun _ => rfl⟩
  have hel : Elems (fun j => S j || decide (j = k)) (insertAt es (posOf t.place.toList j) ((k : Int), .int k tok)) := (he.push hk hS).perm (by
    rw [insertAt_toList]
    unfold insAt
    rw [Array.toList_push]
    refine List.Perm.trans List.perm_middle ?_
    rw [List.take_append_drop]
    exact List.perm_append_singleton _ _ |>.symm)
  have hel_size := hel.size_le
  have hsize : (insertAt es (posOf t.place.toList j) ((k : Int), .int k tok)).size = es.size + 1 := by
    rw [← Array.length_toList, insertAt_toList, insAt_length]; simp
  have hpsize : (insertAt t.place (posOf t.place.toList j) j).size = es.size + 1 := by
    rw [← Array.length_toList, insertAt_toList, insAt_length]; simp [ht.size]
  have hT : Tab1 (insertAt es (posOf t.place.toList j) ((k : Int), .int k tok)) { t with place := insertAt t.place (posOf t.place.toList j) j } := {
    plain := ht.plain
    dum := ht.dum
    size := by show (insertAt t.place _ j).size = _; rw [hpsize, hsize]
    rising := by show (insertAt t.place _ j).toList.Pairwise _; rw [insertAt_toList]; exact insAt_sorted ht.rising hjn
    lt := fun i hi => by
      have hi' : i ∈ (insertAt t.place (posOf t.place.toList j) j).toList := hi
      rw [insertAt_toList] at hi'
      rcases insAt_mem hi' with rfl | h
      · exact hj
      · exact ht.lt i h
    mask := by
      rcases ht.mask with ⟨h1, h2⟩ | ⟨h1, h2⟩
      · exact .inl ⟨h1, by rw [hsize]; omega⟩
      · refine .inr ⟨h1, ?_⟩
        show (insertAt t.place _ j).toList.map _ = _
        rw [insertAt_toList, insertAt_toList, insAt_map, insAt_map, h2, hbig h1] }
  have hfit : ({ t with place := insertAt t.place (posOf t.place.toList j) j } : SetTable).fits (insertAt es (posOf t.place.toList j) ((k : Int), .int k tok)).size = true := by
    unfold SetTable.fits SetTable.fill
    dsimp only
    rw [ht.dum, hpsize, hsize]
    rw [hsize] at hel_size
    rcases ht.mask with ⟨h1, h2⟩ | ⟨h1, h2⟩
    · simp; omega
    · simp; omega
  refine ⟨_, _, ?_, hel, hT, rfl, rfl, rfl⟩
  unfold layNew
  rw [hjf]
  dsimp only
  rw [put_eq ht.dum ht.rising]
  dsimp only
  unfold SetTable.orStandIn
  rw [hfit]
  rfl

theorem sizeAbove_go_ge : ∀ (fuel size n : Nat), size ≤ SetTable.sizeAbove.go n fuel size
  | 0, size, n => Nat.le_refl _
  | fuel + 1, size, n => by
    unfold SetTable.sizeAbove.go
    split
    · exact Nat.le_trans (by omega) (sizeAbove_go_ge fuel (size * 2) n)
    · exact Nat.le_refl _
theorem sizeAbove_big {n : Nat} (h : 8 ≤ n) : 16 ≤ SetTable.sizeAbove n := by
  unfold SetTable.sizeAbove SetTable.sizeAbove.go
  rw [if_pos h]
  exact sizeAbove_go_ge _ _ _

/-- laid anew into a large table -/
theorem relaid_ok {S : Int → Bool} {es : Array (Int × Value)} {t : SetTable} (he : Elems S es) (hp : t.plain = true) {wanted : Nat} (hw : 8 ≤ wanted) :
    ∃ t' order, t.relaid (es.map (·.1)) wanted = some (t', order) ∧ (order.filterMap (es[·]?)).toList.Perm es.toList ∧ order.toList.Perm (List.range es.size) ∧ Tab (order.filterMap (es[·]?)) t' ∧ t'.led = t.led := by
  obtain ⟨hs, h1, h2, h3⟩ := he.nats
  have hm : 15 ≤ SetTable.sizeAbove wanted - 1 := by have := sizeAbove_big hw; omega
  obtain ⟨t', order, a1, a2, a3, a4, a5, a6, a7, a8, a9, a10, a11, a12, a13⟩ := laid_ok (finger := t.finger) (moves := t.movedTo (SetTable.sizeAbove wanted - 1)) (led := t.led) (plain := t.plain) h1 h2 h3 (.inr hm)
  refine ⟨t', order, a1, a2, a3, ⟨a9.trans hp, a5, ?_, a11, by rw [a4]; exact a12, .inr ⟨by rw [a4]; exact hm, a13 hm⟩⟩, a7⟩
  rw [a10, ← Array.length_toList, ← Array.length_toList, a2.length_eq]

theorem relayAll_ok {S : Int → Bool} {es : Array (Int × Value)} {t : SetTable} (he : Elems S es) (hp : t.plain = true) {wanted : Nat} (hw : 8 ≤ wanted) :
    ∃ es' t', relayAll t es wanted = (es', t', false) ∧ Elems S es' ∧ Tab es' t' ∧ t'.led = t.led := by
  obtain ⟨t', order, h1, h2, h3, h4, h5⟩ := relaid_ok he hp hw
  refine ⟨order.filterMap (es[·]?), t', ?_, he.perm h2, h4, h5⟩
  unfold relayAll
  rw [h1]
  dsimp only
  have hc : coversAll order es.size = true := by unfold coversAll; exact List.isPerm_iff.mpr h3
  have hf := h4.fits (he.perm h2)
  rw [hc, hf]
  rfl

theorem grown_big {n : Nat} (h : 5 ≤ n) (h' : n ≤ 12) : 8 ≤ SetTable.grown n := by unfold SetTable.grown; rw [if_neg (by omega)]; omega

theorem Tab1.tab {S : Int → Bool} {es : Array (Int × Value)} {t : SetTable} (h : Tab1 es t) (hf : t.tooFull = false) : Tab es t where
  plain := h.plain
  dum := h.dum
  size := h.size
  rising := h.rising
  lt := h.lt
  mask := by
    rcases h.mask with ⟨h1, h2⟩ | h2
    · refine .inl ⟨h1, ?_⟩
      unfold SetTable.tooFull SetTable.fill at hf
      rw [h1, h.dum, h.size] at hf
      simp at hf
      omega
    · exact .inr h2
theorem Tab1.full {es : Array (Int × Value)} {t : SetTable} (h : Tab1 es t) (hf : t.tooFull = true) : 5 ≤ es.size := by
  unfold SetTable.tooFull SetTable.fill at hf
  rw [h.dum, h.size] at hf
  simp at hf
  rcases h.mask with ⟨h1, h2⟩ | ⟨h1, _⟩ <;> omega

section
variable {prog : Program} {w : World} {A : Around} {E : Value → Shared → Prop} {s : Shared}

theorem wp_storeSet {a : Addr} {es es' : Array (Int × Value)} {ep : Nat} {t t' : SetTable} {Q : Unit → Shared → Prop} (ho : s.heap.get? a = some (setO es ep t)) (hz : es'.size ≤ sizeLine)
    (h : ∀ h', Heap.SameBut a s.heap h' → h'.get? a = some (setO es' (ep + 1) t') → Q () { s with heap := h' }) : wpAny (model prog w) A (storeSet a es' t') Q E s :=
  wpAny_storeSet_of (o := setO es ep t) ho rfl (h _ (Heap.SameBut.update ..) (Heap.get?_update_self _ ho rfl)) hz

/-- add, by its hash -/
theorem wp_setAddHashed {a : Addr} {S : Int → Bool} {es : Array (Int × Value)} {ep : Nat} {t : SetTable} {k : Nat} {tok : Tok} {Q : Bool → Shared → Prop} (ho : s.heap.get? a = some (setO es ep t)) (he : Elems S es) (ht : Tab es t) (hk : k < 12)
    (h : ∀ h' es' ep' t', Heap.SameBut a s.heap h' → h'.get? a = some (setO es' ep' t') → Elems (fun j => S j || decide (j = k)) es' → Tab es' t' → t'.led = t.led → Q (!S k) { s with heap := h' }) :
    wpAny (model prog w) A (setAddHashed a (.int k tok) (k : Int)) Q E s := by
  have hel := he.of prog w
  have hf := ht.fits he
  have hkey : (intKind prog w).is (k : Int) (.int k tok) = true := by simp [intKind, Value.isInt]
  have hhash : (intKind prog w).hash (k : Int) = (k : Int) := hashInt_small hk
  have hb : es.size < scanBound := by have := he.size_le; have : scanBound = 4096 := rfl; omega
  have hL : sizeLine = 16777216 := by decide
  unfold setAddHashed setAddHashedIn
  refine wpAny_holding (wpAny_bind (wpAny_setState_of (o := setO es ep t) ho rfl hf ?_))
  dsimp only
  rw [byScan_of (knd := intKind prog w) rfl hb hel]
  simp only [↓reduceIte]
  unfold setAddByScan
  refine wpAny_bind ?_
  refine wpAny_bind (wpAny_rule ?_)
  have hscan := wpAny_setScan_of (knd := intKind prog w) (prog := prog) (w := w) (A := A) (E := E) (s := s) (adding := true) (x := .int k tok) hkey (o := setO es ep t) ho rfl hf hel (Q := fun m s' => s' = s ∧ m = (match es.toList.findIdx? (fun e => (intKind prog w).is (k : Int) e.2) with | some j => ScanMet.found (0 + j) | none => .absent)) ⟨rfl, rfl⟩
  rw [hhash] at hscan
  refine wpAny_bind (wpAny_mono hscan (fun m s' ⟨e1, e2⟩ => ?_) fun _ _ e => e)
  subst e1; subst e2
  have hmem : S k = true ↔ ∃ e ∈ es.toList, (intKind prog w).is (k : Int) e.2 = true := by
    rw [he.mem]
    constructor
    · intro hm
      obtain ⟨e, hem, hek⟩ := List.mem_map.mp hm
      obtain ⟨k', tok', hk', rfl⟩ := he.each e hem
      refine ⟨_, hem, ?_⟩
      have : (k' : Int) = k := hek
      simp [intKind, Value.isInt, this]
    · rintro ⟨e, hem, hek⟩
      obtain ⟨k', tok', hk', rfl⟩ := he.each e hem
      have : (k' : Int) = k := by simpa [intKind, Value.isInt] using hek
      exact List.mem_map.mpr ⟨_, hem, this⟩
  cases hr : List.findIdx? (fun e => (intKind prog w).is (k : Int) e.2) es.toList with
  | some j =>
    dsimp only
    obtain ⟨hj, hpj, _⟩ := List.findIdx?_eq_some_iff_getElem.mp hr
    have hSk : S k = true := hmem.mpr ⟨es.toList[j], List.getElem_mem hj, hpj⟩
    refine wpAny_pure (wpAny_pure ?_)
    have := h s'.heap es ep t (Heap.SameBut.refl a s'.heap) ho ⟨he.each, he.nodup, fun j => by
      rw [Bool.or_eq_true, decide_eq_true_eq, ← he.mem j]
      exact ⟨fun h => h.elim id (fun e => e ▸ hSk), .inl⟩⟩ ht rfl
    rw [hSk] at this
    exact this
  | none =>
    dsimp only
    have hSk : S k = false := by
      cases hk : S k with
      | false => rfl
      | true => obtain ⟨e, he', hp⟩ := hmem.mp hk; have := List.findIdx?_eq_none_iff.mp hr e he'; rw [hp] at this; exact Bool.noConfusion this
    obtain ⟨es1, t1, hlay, he1, ht1, hled, _, _⟩ := layNew_ok (tok := tok) he ht hk hSk
    rw [hlay]
    dsimp only
    have hsz1 := he1.size_le
    refine wpAny_bind (wpAny_pure ?_)
    rw [ht1.plain]
    simp only [↓reduceIte]
    refine wpAny_bind ?_
    rw [hashByValue_scannable 8 (x := .int k tok) rfl]
    refine wpAny_pure ?_
    dsimp only [plainKind]
    simp only [↓reduceIte]
    refine wpAny_bind (wp_storeSet (es' := es1) (t' := t1) ho (by omega) fun h1 hs1 ho1 => ?_)
    cases hfull : t1.tooFull with
    | false =>
      simp only [Bool.not_false, Bool.and_false, Bool.false_eq_true, ↓reduceIte]
      refine wpAny_pure ?_
      have := h h1 es1 _ t1 hs1 ho1 he1 (ht1.tab (S := S) hfull) hled
      rw [hSk] at this
      exact wpAny_pure this
    | true =>
      simp only [Bool.not_false, Bool.and_self, ↓reduceIte]
      obtain ⟨es2, t2, hrel, he2, ht2, hled2⟩ := relayAll_ok he1 ht1.plain (grown_big (ht1.full hfull) hsz1)
      rw [hrel]
      dsimp only
      have hsz2 := he2.size_le
      refine wpAny_bind (wpAny_pure ?_)
      refine wpAny_bind (wp_storeSet (es' := es2) (t' := t2) ho1 (by omega) fun h2 hs2 ho2 => ?_)
      refine wpAny_pure ?_
      have := h h2 es2 _ t2 (hs1.trans hs2) ho2 he2 ht2 (hled2.trans hled)
      rw [hSk] at this
      exact wpAny_pure this

end
end Mine

namespace Mine
open SetTable

theorem pickOrder_go_perm {α : Type} (next : Nat → Nat) : ∀ (fuel k : Nat) (left : List α) (out : Array α), left.length ≤ fuel → (pickOrder.go next fuel k left out).toList.Perm (out.toList ++ left)
  | 0, k, left, out, h => by
    have : left = [] := List.eq_nil_of_length_eq_zero (by omega)
    subst this
    unfold pickOrder.go; simp
  | fuel + 1, k, left, out, h => by
    unfold pickOrder.go
    cases left with
    | nil => simp
    | cons y l =>
      have hlt : next k % (y :: l).length < (y :: l).length := Nat.mod_lt _ (by simp)
      generalize hi : next k % (y :: l).length = i at hlt ⊢
      rw [List.getElem?_eq_getElem hlt]
      dsimp only
      have hlen : ((y :: l).eraseIdx i).length ≤ fuel := by rw [List.length_eraseIdx_of_lt hlt]; simp at h ⊢; omega
      refine (pickOrder_go_perm next fuel (k + 1) _ _ hlen).trans ?_
      rw [Array.toList_push, List.append_assoc]
      refine List.Perm.append_left _ ?_
      have : (y :: l).Perm ((y :: l)[i] :: (y :: l).eraseIdx i) := by
        rw [List.eraseIdx_eq_take_drop_succ]
        conv => lhs; rw [← List.take_append_drop i (y :: l), List.drop_eq_getElem_cons hlt]
        exact List.perm_middle
      exact this.symm
theorem pickOrder_perm {α : Type} (next : Nat → Nat) (xs : Array α) : (pickOrder next xs).toList.Perm xs.toList := by
  unfold pickOrder
  refine (pickOrder_go_perm next _ _ _ _ (by simp)).trans ?_
  simp

theorem sizeAbove_small : ∀ n, n < 64 → SetTable.sizeAbove n ≤ 64 := by decide

/-- the led mark, as sets are made -/
def ledOf (w : World) : Bool := !(w.params.followText "set-order")

section
variable {prog : Program} {w : World} {A : Around} {E : Value → Shared → Prop} {s : Shared}

theorem wp_setsByText {Q : Bool → Shared → Prop} (h : Q (w.params.followText "set-order") s) : wpAny (model prog w) A setsByText Q E s := by
  unfold setsByText
  exact wpAny_bind (wpAny_askSetting (wpAny_pure h))

theorem wp_setState {S : Int → Bool} {a : Addr} {es : Array (Int × Value)} {ep : Nat} {t : SetTable} {Q : (Array (Int × Value) × Nat × SetTable) → Shared → Prop}
    (ho : s.heap.get? a = some (setO es ep t)) (he : Elems S es) (ht : Tab es t) (h : Q (es, ep, t) s) : wpAny (model prog w) A (setState a) Q E s :=
  wpAny_setState_of (o := setO es ep t) ho rfl (ht.fits he) h

theorem wp_setEntries {S : Int → Bool} {a : Addr} {es : Array (Int × Value)} {ep : Nat} {t : SetTable} {Q : Array (Int × Value) → Shared → Prop}
    (ho : s.heap.get? a = some (setO es ep t)) (he : Elems S es) (ht : Tab es t) (h : Q es s) : wpAny (model prog w) A (setEntries a) Q E s := by
  unfold setEntries
  exact wpAny_bind (wp_setState ho he ht (wpAny_pure h))

theorem wp_setWalk {S : Int → Bool} {a : Addr} {es : Array (Int × Value)} {ep : Nat} {t : SetTable} {Q : Array (Int × Value) → Shared → Prop}
    (ho : s.heap.get? a = some (setO es ep t)) (he : Elems S es) (ht : Tab es t) (hl : t.led = ledOf w) (h : ∀ xs : Array (Int × Value), xs.toList.Perm es.toList → Q xs s) : wpAny (model prog w) A (setWalk a) Q E s := by
  unfold setWalk
  refine wpAny_bind (wp_setState ho he ht ?_)
  dsimp only
  refine wpAny_bind (wp_setsByText ?_)
  cases hb : w.params.followText "set-order" with
  | true =>
    simp only [↓reduceIte]
    refine wpAny_bind (wpAny_askSetting (wpAny_pure (h _ (pickOrder_perm _ _))))
  | false =>
    have hl' : t.led = true := by rw [hl]; unfold ledOf; rw [hb]; rfl
    simp only [Bool.false_eq_true, ↓reduceIte]
    show wpAny _ _ (if (!t.plain && decide (es.size > 1)) = true then _ else _) _ _ _
    rw [ht.plain]
    simp only [Bool.not_true, Bool.false_and, Bool.false_eq_true, ↓reduceIte]
    refine wpAny_bind ?_
    show wpAny _ _ (if (!t.led && decide (es.size > 1)) = true then unsupported "set:maker-not-led" else pure ()) _ _ _
    rw [hl']
    simp only [Bool.not_true, Bool.false_and, Bool.false_eq_true, ↓reduceIte]
    exact wpAny_pure (wpAny_pure (h es (.refl _)))

theorem wp_setWalkUnseen {S : Int → Bool} {a : Addr} {es : Array (Int × Value)} {ep : Nat} {t : SetTable} {others : List Addr} {filled : Option Addr} {Q : Array (Int × Value) → Shared → Prop}
    (ho : s.heap.get? a = some (setO es ep t)) (he : Elems S es) (ht : Tab es t) (hl : t.led = ledOf w) (h : ∀ xs : Array (Int × Value), xs.toList.Perm es.toList → Q xs s) : wpAny (model prog w) A (setWalkUnseen a others filled) Q E s := by
  unfold setWalkUnseen
  refine wpAny_bind (wp_setState ho he ht ?_)
  dsimp only
  refine wpAny_bind (wp_setsByText ?_)
  have hc : (w.params.followText "set-order" || t.led && t.plain || decide (es.size ≤ 1)) = true := by
    rw [hl, ht.plain]
    unfold ledOf
    cases w.params.followText "set-order" <;> simp
  rw [hc]
  simp only [↓reduceIte]
  exact wp_setWalk ho he ht hl h

theorem wp_newSet {Q : Value → Shared → Prop} (h : Q (.ref s.heap.objs.size) { s with heap := s.heap.push (setO #[] 0 (.fresh 0 0 (ledOf w))) }) : wpAny (model prog w) A (newSet (.type "set")) Q E s := by
  unfold newSet
  refine wpAny_bind (wp_setsByText ?_)
  dsimp only
  simp only [newObj]
  exact wpAny_bind (wpAny_alloc (wpAny_pure h))

theorem wp_setRelay {S : Int → Bool} {a : Addr} {es : Array (Int × Value)} {ep : Nat} {t : SetTable} {wanted : Nat} {Q : Unit → Shared → Prop}
    (ho : s.heap.get? a = some (setO es ep t)) (he : Elems S es) (ht : Tab es t) (hw : 8 ≤ wanted) (hw' : wanted < 64)
    (h : ∀ h' es' ep' t', Heap.SameBut a s.heap h' → h'.get? a = some (setO es' ep' t') → Elems S es' → Tab es' t' → t'.led = t.led → 15 ≤ t'.mask → Q () { s with heap := h' }) : wpAny (model prog w) A (setRelay a wanted) Q E s := by
  have hL : sizeLine = 16777216 := by decide
  unfold setRelay
  refine wpAny_bind (wp_setState ho he ht ?_)
  dsimp only
  have hsm := sizeAbove_small wanted hw'
  rw [if_neg (by omega)]
  obtain ⟨t', order, h1, h2, h3, h4, h5⟩ := relaid_ok he ht.plain hw
  have hmask : 15 ≤ t'.mask := by
    have hm := sizeAbove_big hw
    unfold SetTable.relaid SetTable.laid at h1
    cases hc : layClean (SetTable.sizeAbove wanted - 1) (es.map (·.1)) with
    | none => rw [hc] at h1; cases h1
    | some ow =>
      rw [hc] at h1
      simp only [Option.bind_eq_bind, Option.bind_some] at h1
      cases h1
      show 15 ≤ SetTable.sizeAbove wanted - 1
      omega
  refine wpAny_bind ?_
  show wpAny _ _ (do
    let some (t, order) := t.relaid (es.map (·.1)) wanted | unsupported "internal:set-table-without-room"
    let es' := order.filterMap (es[·]?)
    if es'.size != es.size then unsupported "internal:set-table-lost-an-element"
    pure (es', t)) _ _ _
  rw [h1]
  dsimp only
  have hsz : (order.filterMap (es[·]?)).size = es.size := by have := h2.length_eq; simpa only [Array.length_toList] using this
  rw [hsz]
  simp only [bne_self_eq_false, Bool.false_eq_true, ↓reduceIte]
  have he' := he.perm h2
  have hs12 := he'.size_le
  exact wpAny_pure (wp_storeSet ho (Nat.le_trans hs12 (by omega)) fun h' hs ho' => h h' _ _ t' hs ho' he' h4 h5 hmask)

theorem wp_setRoomFor {S : Int → Bool} {a : Addr} {es : Array (Int × Value)} {ep : Nat} {t : SetTable} {more : Nat} {Q : Unit → Shared → Prop}
    (ho : s.heap.get? a = some (setO es ep t)) (he : Elems S es) (ht : Tab es t) (hm : more ≤ 12)
    (h : ∀ h' es' ep' t', Heap.SameBut a s.heap h' → h'.get? a = some (setO es' ep' t') → Elems S es' → Tab es' t' → t'.led = t.led → (15 ≤ t'.mask ∨ es'.size + more ≤ 4) → Q () { s with heap := h' }) : wpAny (model prog w) A (setRoomFor a more) Q E s := by
  unfold setRoomFor
  refine wpAny_bind (wp_setState ho he ht ?_)
  dsimp only
  have hsz := he.size_le
  unfold SetTable.roomFor
  have hfill : t.fill = es.size := by unfold SetTable.fill; rw [ht.dum, ht.size]; simp
  rw [hfill, ht.size]
  by_cases hc : (es.size + more) * 5 ≥ t.mask * 3
  · rw [if_pos hc]
    dsimp only
    refine wp_setRelay ho he ht ?_ (by omega) fun h' es' ep' t' a1 a2 a3 a4 a5 a6 => h h' es' ep' t' a1 a2 a3 a4 a5 (.inl a6)
    rcases ht.mask with ⟨h1, _⟩ | ⟨h1, _⟩ <;> omega
  · rw [if_neg hc]
    dsimp only
    refine wpAny_pure ?_
    have := h s.heap es ep t (Heap.SameBut.refl a s.heap) ho he ht rfl (by
      rcases ht.mask with ⟨h1, _⟩ | ⟨h1, _⟩
      · exact .inr (by omega)
      · exact .inl h1)
    exact this

/-- the elements of o, one by one, into r -/
theorem wp_addAll {r o : Addr} {eo : Array (Int × Value)} {epo : Nat} {to : SetTable} {So : Int → Bool} {each : Sem Unit} (hne : r ≠ o) (heo : Elems So eo) (hto : Tab eo to)
    (heach : ∀ (s : Shared) (Q : Unit → Shared → Prop), s.heap.get? o = some (setO eo epo to) → Q () s → wpAny (model prog w) A each Q E s) :
    ∀ (xs : List (Int × Value)) (s : Shared) (S : Int → Bool) (es : Array (Int × Value)) (ep : Nat) (t : SetTable) (Q : PUnit → Shared → Prop), (∀ e ∈ xs, e ∈ eo.toList) →
      s.heap.get? o = some (setO eo epo to) → s.heap.get? r = some (setO es ep t) → Elems S es → Tab es t →
      (∀ h' es' ep' t', Heap.SameBut r s.heap h' → h'.get? r = some (setO es' ep' t') → Elems (fun j => S j || decide (j ∈ xs.map (·.1))) es' → Tab es' t' → t'.led = t.led → Q ⟨⟩ { s with heap := h' }) →
      wpAny (model prog w) A (forIn xs PUnit.unit fun x _ => do
        let _ ← holding [x.2] (setAddHashed r x.2 x.1)
        each
        if ((← setState o).2.1 != epo) = true then unsupported "set.changed-during-merge" else pure (ForInStep.yield PUnit.unit)) Q E s
  | [], s, S, es, ep, t, Q, _, ho, hr, he, ht, h => by
    rw [List.forIn_nil]
    exact wpAny_pure (h s.heap es ep t (Heap.SameBut.refl r s.heap) hr ⟨he.each, he.nodup, fun j => by simp [he.mem]⟩ ht rfl)
  | x :: xs, s, S, es, ep, t, Q, hx, ho, hr, he, ht, h => by
    rw [List.forIn_cons]
    obtain ⟨k, tok, hk, rfl⟩ := heo.each x (hx x (.head _))
    refine wpAny_bind (wpAny_bind (wpAny_holding (wp_setAddHashed hr he ht hk fun h1 es1 ep1 t1 hs1 hr1 he1 ht1 hl1 => ?_)))
    have ho1 : h1.get? o = some (setO eo epo to) := (hs1.2 o (Ne.symm hne)).trans ho
    refine wpAny_bind (heach _ _ ho1 (wpAny_bind (wp_setState ho1 heo hto ?_)))
    simp only [bne_self_eq_false, Bool.false_eq_true, ↓reduceIte]
    refine wpAny_pure ?_
    refine wp_addAll hne heo hto heach xs _ _ es1 ep1 t1 Q (fun e he => hx e (.tail _ he)) ho1 hr1 he1 ht1 fun h2 es2 ep2 t2 hs2 hr2 he2 ht2 hl2 => ?_
    refine h h2 es2 ep2 t2 (hs1.trans hs2) hr2 ⟨he2.each, he2.nodup, fun j => ?_⟩ ht2 (hl2.trans hl1)
    rw [← he2.mem j]
    simp only [List.map_cons, List.mem_cons, Bool.or_eq_true, decide_eq_true_eq]
    constructor
    · rintro (h | h | h)
      · exact .inl (.inl h)
      · exact .inl (.inr h)
      · exact .inr h
    · rintro ((h | h) | h)
      · exact .inl h
      · exact .inr (.inl h)
      · exact .inr (.inr h)

/-- merge: r takes in o's elements -/
theorem wp_setMerge {r o : Addr} {S So : Int → Bool} {es eo : Array (Int × Value)} {ep epo : Nat} {t to : SetTable} {each : Sem Unit} {Q : Unit → Shared → Prop} (hne : r ≠ o)
    (hr : s.heap.get? r = some (setO es ep t)) (he : Elems S es) (ht : Tab es t) (hl : t.led = ledOf w)
    (ho : s.heap.get? o = some (setO eo epo to)) (heo : Elems So eo) (hto : Tab eo to) (hlo : to.led = ledOf w)
    (heach : ∀ (s : Shared) (Q : Unit → Shared → Prop), s.heap.get? o = some (setO eo epo to) → Q () s → wpAny (model prog w) A each Q E s)
    (h : ∀ h' es' ep' t', Heap.SameBut r s.heap h' → h'.get? r = some (setO es' ep' t') → Elems (fun j => S j || So j) es' → Tab es' t' → t'.led = ledOf w → Q () { s with heap := h' }) :
    wpAny (model prog w) A (setMerge r o each) Q E s := by
  have hL : sizeLine = 16777216 := by decide
  unfold setMerge
  rw [if_neg (by simpa using hne)]
  refine wpAny_bind (wp_setState ho heo hto ?_)
  dsimp only
  by_cases hemp : eo.isEmpty = true
  · rw [if_pos hemp]
    refine wpAny_pure ?_
    have hemp' : eo = #[] := by simpa using hemp
    have hSo : ∀ j, So j = false := fun j => by
      cases hj : So j with
      | false => rfl
      | true => rw [heo.mem, hemp'] at hj; simp at hj
    have := h s.heap es ep t (Heap.SameBut.refl r s.heap) hr ⟨he.each, he.nodup, fun j => by rw [hSo]; simp [he.mem]⟩ ht hl
    exact this
  · rw [if_neg hemp]
    have heosz := heo.size_le
    refine wpAny_bind (wp_setRoomFor hr he ht heosz fun h1 es1 ep1 t1 hs1 hr1 he1 ht1 hl1 hmk => ?_)
    have ho1 : h1.get? o = some (setO eo epo to) := (hs1.2 o (Ne.symm hne)).trans ho
    refine wpAny_bind (wp_setState hr1 he1 ht1 ?_)
    dsimp only
    have hl1' : t1.led = ledOf w := hl1.trans hl
    have hfill : t1.fill = es1.size := by unfold SetTable.fill; rw [ht1.dum, ht1.size]; simp
    have hand : (t1.led && to.led) = ledOf w := by rw [hl1', hlo]; simp
    have hplain : (t1.plain && to.plain) = true := by rw [ht1.plain, hto.plain]; rfl
    unfold SetTable.road
    rw [hfill]
    by_cases hz : es1.size = 0
    · have hS0 : ∀ j, S j = false := fun j => by
        cases hj : S j with
        | false => rfl
        | true =>
          rw [he1.mem] at hj
          have : es1 = #[] := by simpa using hz
          rw [this] at hj; simp at hj
      have helU : Elems (fun j => S j || So j) eo := ⟨heo.each, heo.nodup, fun j => by rw [hS0]; simp [heo.mem]⟩
      rw [hz]
      simp only [bne_self_eq_false, Bool.false_eq_true, ↓reduceIte]
      rw [hto.dum]
      by_cases hmm : t1.mask = to.mask
      · have hc : (t1.mask == to.mask && (#[] : Array Nat).isEmpty) = true := by simp [hmm]
        rw [hc]
        simp only [↓reduceIte]
        refine wp_storeSet hr1 (by omega) fun h2 hs2 hr2 => ?_
        refine h h2 _ _ _ (hs1.trans hs2) hr2 helU ?_ hand
        exact { plain := hplain, dum := rfl, size := hto.size, rising := hto.rising, lt := hto.lt, mask := hto.mask }
      · have hc : (t1.mask == to.mask && (#[] : Array Nat).isEmpty) = false := by simp [hmm]
        rw [hc]
        simp only [Bool.false_eq_true, ↓reduceIte]
        obtain ⟨hs, e1, e2, e3⟩ := heo.nats
        have hlen : hs.length = eo.size := by have := congrArg List.length e1; simp at this; exact this.symm
        have hm7 : t1.mask = 7 ∧ eo.size ≤ 4 ∨ 15 ≤ t1.mask := by
          rcases hmk with h | h
          · exact .inr h
          · rcases ht1.mask with ⟨a, _⟩ | ⟨a, _⟩
            · exact .inl ⟨a, by omega⟩
            · exact .inr a
        obtain ⟨t', order, a1, a2, a3, a4, a5, a6, a7, a8, a9, a10, a11, a12, a13⟩ := laid_ok (mask := t1.mask) (finger := t1.finger) (moves := t1.moves) (led := t1.led && to.led) (plain := t1.plain && to.plain) e1 e2 e3 (hm7.imp (fun h => ⟨h.1, by omega⟩) id)
        refine wpAny_bind ?_
        show wpAny _ _ (do
          let some (t, order) := SetTable.laid t1.mask t1.finger t1.moves (t1.led && to.led) (t1.plain && to.plain) (eo.map (·.1)) | unsupported "internal:set-table-without-room"
          let es' := order.filterMap (eo[·]?)
          if es'.size != eo.size then unsupported "internal:set-table-lost-an-element"
          pure (es', t)) _ _ _
        rw [a1]
        dsimp only
        have hsz : (order.filterMap (eo[·]?)).size = eo.size := by have := a2.length_eq; simpa only [Array.length_toList] using this
        rw [hsz]
        simp only [bne_self_eq_false, Bool.false_eq_true, ↓reduceIte]
        have helU' := helU.perm a2
        refine wpAny_pure (wp_storeSet hr1 (by rw [hsz]; omega) fun h2 hs2 hr2 => ?_)
        refine h h2 _ _ _ (hs1.trans hs2) hr2 helU' ?_ (a7.trans hand)
        refine { plain := a9.trans hplain, dum := a5, size := by rw [a10, hsz], rising := a11, lt := by rw [a4]; exact a12, mask := ?_ }
        rw [a4, hsz]
        exact hm7.imp id fun h => ⟨h, a13 h⟩
    · have hb : (es1.size != 0) = true := by simpa using hz
      rw [hb]
      simp only [↓reduceIte]
      refine wpAny_bind (wp_setWalkUnseen ho1 heo hto hlo fun xs hxs => ?_)
      refine wpAny_bind ?_
      rw [← Array.forIn_toList]
      refine wp_addAll (A := A) (E := E) (each := each) hne heo hto heach xs.toList _ S es1 ep1 t1 _ (fun e he => hxs.mem_iff.mp he) ho1 hr1 he1 ht1 fun h2 es2 ep2 t2 hs2 hr2 he2 ht2 hl2 => ?_
      refine wpAny_pure (h h2 es2 ep2 t2 (hs1.trans hs2) hr2 ⟨he2.each, he2.nodup, fun j => ?_⟩ ht2 (hl2.trans hl1'))
      rw [← he2.mem j]
      have : j ∈ xs.toList.map (·.1) ↔ So j = true := by rw [heo.mem]; exact (hxs.map _).mem_iff
      simp only [Bool.or_eq_true, decide_eq_true_eq, this]

end
end Mine

namespace Mine
open SetTable

section
variable {prog : Program} {w : World} {A : Around} {E : Value → Shared → Prop} {s : Shared}

/-- what set.__new__ makes bears the led mark of its world -/
theorem code_newSet {Q₁ : Value → Shared → Prop} (h : Q₁ (.ref s.heap.objs.size) { s with heap := s.heap.push (setO #[] 0 (.fresh 0 0 (ledOf w))) }) :
    codeAny (model prog w) A (.call (.builtin "set.__new__") ⟨[.type "set"], []⟩) (wants Q₁ E) s := by
  refine codeAny_of_tree ?_
  show wpAny _ A.in1 (do checkBuiltinCall "set.__new__" ⟨[.type "set"], []⟩; again (.builtin "set.__new__" ⟨[.type "set"], []⟩)) _ _ s
  refine wpAny_bind (wpAny_of_eq F.newCall_set_0 (wpAny_pure ⟨plainId_quiet F.plain_set_new _, codeAny_builtin F.entry_set_new ?_⟩))
  rw [Around.under_plainId F.plain_set_new _]
  unfold Builtin.«set.__new__» Builtin.Frozenset.newClass
  have hsub := sub_set_self
  obtain ⟨hp, g, d, tk, os⟩ := s
  dsimp only
  wp_walk
  refine wpAny_askSetting (wpAny_pure ?_)
  dsimp only
  simp only [newObj]
  refine wpAny_bind (wpAny_alloc (wpAny_pure ?_))
  exact wpAny_pure h

set_option maxHeartbeats 1000000 in
set_option maxRecDepth 100000 in
theorem wp_set0 {Q : Value → Shared → Prop} (h : Q (.ref s.heap.objs.size) { s with heap := s.heap.push (setO #[] 0 (.fresh 0 0 (ledOf w))) }) : wpAny (model prog w) A (call (.type "set") []) Q E s := by
  obtain ⟨c, tl, hmro⟩ := F.called_set.mro
  have hmade := F.called_set.made
  have hsub := F.called_set.sub
  refine wpAny_call (codeAny_of_tree ?_)
  show wpAny _ _ (callAny (.type "set") _) _ _ _
  refine wpAny_pure ⟨Code.quiet_builtin _ (by decide +kernel), codeAny_builtin F.entry_type_call ?_⟩
  rw [Around.under_plain (weight_type_call_type "set" [] []) rfl]
  have h1 := F.called_set.notType
  have h2 := F.called_set.canCreate
  have hct := F.typeCall_set_0
  repeat (any_goals (first | assumption | wp_step))
  refine codeAny_mono (code_newSet (E := E) (Q₁ := fun obj s₁ => obj = .ref s.heap.objs.size ∧ s₁ = { s with heap := s.heap.push (setO #[] 0 (.fresh 0 0 (ledOf w))) }) ⟨rfl, rfl⟩) fun r s₁ hr => ?_
  cases r with
  | error e => exact hr
  | ok fl =>
    cases fl with
    | ret obj =>
      obtain ⟨rfl, rfl⟩ := hr
      have hS : (s.heap.push (setO #[] 0 (.fresh 0 0 (ledOf w)))).get? s.heap.objs.size = some (setO #[] 0 (.fresh 0 0 (ledOf w))) := Heap.get?_push_size _ rfl
      have hT : Shared.TypeIs { s with heap := s.heap.push (setO #[] 0 (.fresh 0 0 (ledOf w))) } (.ref s.heap.objs.size) "set" := ⟨_, hS, rfl⟩
      have hli := F.called_set.init.lookup
      have hbi := F.called_set.init.bind (.ref s.heap.objs.size)
      repeat (any_goals (first | assumption | wp_step))
      refine codeAny_mono (codeAny_call_builtin (R := wants (fun r s₂ => r = .none ∧ Q (.ref s.heap.objs.size) s₂) E) F.called_set.init.plain F.entry_set_init (check_set_init hT ?_)) fun r₂ s₂ hr₂ => ?_
      · unfold Builtin.«set.__init__» noKeywords
        wp_walk
        exact ⟨rfl, h⟩
      · cases r₂ with
        | error e => exact hr₂
        | ok fl₂ =>
          cases fl₂ with
          | ret r =>
            obtain ⟨rfl, hq⟩ := hr₂
            repeat (any_goals (first | assumption | wp_step))
          | _ => exact hr₂.elim
    | _ => exact hr.elim

theorem entry_set_or : entryFor table "set.__or__" = some Builtin.«frozenset.__or__» := entryFor_alias (id' := "frozenset.__or__") (by kernel_rfl) rfl (by decide +kernel) (by kernel_rfl)
theorem setO_type {a : Addr} {es : Array (Int × Value)} {ep : Nat} {t : SetTable} (ho : s.heap.get? a = some (setO es ep t)) : s.TypeIs (.ref a) "set" := ⟨_, ho, rfl⟩

theorem wp_isAnySet {a : Addr} {es : Array (Int × Value)} {ep : Nat} {t : SetTable} {Q : Bool → Shared → Prop} (ho : s.heap.get? a = some (setO es ep t)) (h : Q true s) : wpAny (model prog w) A (Builtin.Frozenset.isAnySet (.ref a)) Q E s := by
  unfold Builtin.Frozenset.isAnySet
  show wpAny _ _ (do let b ← isInstance (.ref a) (.type "set"); match toBool b with | true => pure b | false => isInstance (.ref a) (.type "frozenset")) _ _ _
  exact wpAny_bind (wpAny_isInstance (setO_type ho) sub_set_self (wpAny_pure h))

theorem wp_baseOf {a : Addr} {es : Array (Int × Value)} {ep : Nat} {t : SetTable} {Q : Value → Shared → Prop} (ho : s.heap.get? a = some (setO es ep t)) (h : Q (.type "set") s) : wpAny (model prog w) A (Builtin.Frozenset.baseOf a) Q E s := by
  unfold Builtin.Frozenset.baseOf
  exact wpAny_bind (wpAny_isInstance (setO_type ho) sub_set_self (wpAny_pure h))

theorem fresh_ne {h : Heap} {a : Addr} {o : Obj} (e : h.get? a = some o) : h.objs.size ≠ a := fun e' => Nat.lt_irrefl _ (e' ▸ Heap.lt_size e : h.objs.size < h.objs.size)

/-- a copy -/
theorem wp_copyOf {a : Addr} {S : Int → Bool} {es : Array (Int × Value)} {ep : Nat} {t : SetTable} {Q : Value → Shared → Prop} (ho : s.heap.get? a = some (setO es ep t)) (he : Elems S es) (ht : Tab es t) (hl : t.led = ledOf w)
    (h : ∀ h' es' ep' t', (∀ b o, s.heap.get? b = some o → h'.get? b = some o) → h'.get? s.heap.objs.size = some (setO es' ep' t') → Elems S es' → Tab es' t' → t'.led = ledOf w → Q (.ref s.heap.objs.size) { s with heap := h' }) :
    wpAny (model prog w) A (Builtin.Frozenset.copyOf a) Q E s := by
  unfold Builtin.Frozenset.copyOf
  refine wpAny_bind (wp_baseOf ho (wpAny_bind (wp_newSet ?_)))
  refine wpAny_bind (wpAny_pure ?_)
  have hS : (s.heap.push (setO #[] 0 (.fresh 0 0 (ledOf w)))).get? s.heap.objs.size = some (setO #[] 0 (.fresh 0 0 (ledOf w))) := Heap.get?_push_size _ rfl
  refine wpAny_bind (wp_setMerge (fresh_ne ho) hS Elems.empty (Tab.new 0 0 _) rfl (Heap.get?_push_of_some _ ho) he ht hl (fun _ _ _ hq => wpAny_pure hq) fun h' es' ep' t' hs hr he' ht' hl' => wpAny_pure ?_)
  exact h h' es' ep' t' (fun b o e => hs.extBut b o (fun e' => by subst e'; exact absurd (Heap.lt_size e) (Nat.lt_irrefl _)) (Heap.get?_push_of_some _ e)) hr ⟨he'.each, he'.nodup, fun j => by rw [← he'.mem j]; simp⟩ ht' hl'

/-- l | r -/
theorem wp_union {l r : Addr} {S S' : Int → Bool} {es es' : Array (Int × Value)} {ep ep' : Nat} {t t' : SetTable} {Q : Value → Shared → Prop} (ho : s.heap.get? l = some (setO es ep t)) (he : Elems S es) (ht : Tab es t) (hl : t.led = ledOf w)
    (ho' : s.heap.get? r = some (setO es' ep' t')) (he' : Elems S' es') (ht' : Tab es' t') (hl' : t'.led = ledOf w)
    (h : ∀ h' es₂ ep₂ t₂, (∀ b o, s.heap.get? b = some o → h'.get? b = some o) → h'.get? s.heap.objs.size = some (setO es₂ ep₂ t₂) → Elems (fun j => S j || S' j) es₂ → Tab es₂ t₂ → t₂.led = ledOf w → Q (.ref s.heap.objs.size) { s with heap := h' }) :
    wpAny (model prog w) A (binaryOp .BitOr (.ref l) (.ref r)) Q E s := by
  refine wpAny_binaryOp_same (setO_type ho) (setO_type ho') F.fills_set_or F.slot_set_or (wpAny_call_entry F.slot_set_or (setO_type ho) entry_set_or ?_ (F.args_set_or_2 _ _))
  show wpAny _ _ (Builtin.Frozenset.slot1 "__or__" ⟨[.ref l, .ref r], []⟩ >>= _) _ _ _
  refine wpAny_bind (wpAny_pure ?_)
  show wpAny _ _ ((Builtin.Frozenset.isAnySet (.ref l) <&&> Builtin.Frozenset.isAnySet (.ref r)) >>= _) _ _ _
  refine wpAny_bind ?_
  show wpAny _ _ (do let b ← Builtin.Frozenset.isAnySet (.ref l); match toBool b with | true => Builtin.Frozenset.isAnySet (.ref r) | false => pure b) _ _ _
  refine wpAny_bind (wp_isAnySet ho (wp_isAnySet ho' ?_))
  simp only [Bool.not_true, Bool.false_eq_true, ↓reduceIte]
  refine wpAny_bind (wpAny_pure ?_)
  refine wpAny_bind ?_
  show wpAny _ _ (do
      let result ← Builtin.Frozenset.copyOf l
      if Value.ref r != .ref l then holding [result] (Builtin.Frozenset.updateFrom (toString "frozenset." ++ toString "__or__") (← Builtin.Frozenset.addrOf result) (.ref r))
      return result) _ _ _
  refine wpAny_bind (wp_copyOf ho he ht hl fun h1 es1 ep1 t1 k1 hr1 he1 ht1 hl1 => ?_)
  by_cases hrl : r = l
  · subst hrl
    rw [ho] at ho'
    have e := Option.some.inj ho'
    simp only [setO, Obj.mk.injEq, Data.set.injEq, true_and, and_true] at e
    obtain ⟨rfl, rfl, rfl⟩ := e
    have hb : (Value.ref r != Value.ref r) = false := by simp
    rw [hb]
    simp only [Bool.false_eq_true, ↓reduceIte]
    refine wpAny_pure (wpAny_pure ⟨_, rfl, (fun x => nomatch x), h h1 es1 ep1 t1 k1 hr1 ⟨he1.each, he1.nodup, fun j => ?_⟩ ht1 hl1⟩)
    rw [← he1.mem j]
    have : S j = S' j := by
      cases h1 : S j <;> cases h2 : S' j <;> try rfl
      · rw [(he.mem j).mpr ((he'.mem j).mp h2)] at h1; cases h1
      · rw [(he'.mem j).mpr ((he.mem j).mp h1)] at h2; cases h2
    simp [this]
  · have hb : (Value.ref r != Value.ref l) = true := by simp [hrl]
    rw [hb]
    simp only [↓reduceIte]
    refine wpAny_bind (wpAny_pure (wpAny_bind (wpAny_holding ?_)))
    unfold Builtin.Frozenset.updateFrom
    have ho1 := k1 r _ ho'
    refine wpAny_bind (wp_isAnySet ho1 ?_)
    simp only [↓reduceIte]
    refine wpAny_bind (wpAny_pure ?_)
    unfold Builtin.Frozenset.merge
    have hse : ∀ (A : Around) (E : Value → Shared → Prop) (s : Shared) (Q : Nat → Shared → Prop), s.heap.get? r = some (setO es' ep' t') → Q ep' s → wpAny (model prog w) A (setEpoch r) Q E s := fun A E s Q ho hq => by
      unfold setEpoch
      exact wpAny_bind (wp_setState ho he' ht' (wpAny_pure hq))
    refine wpAny_bind (hse _ _ _ _ ho1 ?_)
    have hne : s.heap.objs.size ≠ r := fresh_ne ho'
    refine wp_setMerge hne hr1 he1 ht1 hl1 ho1 he' ht' hl' (fun s₂ Q₂ ho₂ hq => ?_) fun h2 es2 ep2 t2 hs2 hr2 he2 ht2 hl2 => ?_
    · unfold Builtin.Frozenset.unchanged
      refine wpAny_bind (hse _ _ _ _ ho₂ ?_)
      simp only [bne_self_eq_false, Bool.false_eq_true, ↓reduceIte]
      exact wpAny_pure hq
    · refine wpAny_pure (wpAny_pure ⟨_, rfl, (fun x => nomatch x), h h2 es2 ep2 t2 (fun b o e => hs2.extBut b o (fun e' => by subst e'; exact absurd (Heap.lt_size e) (Nat.lt_irrefl _)) (k1 b o e)) hr2 he2 ht2 hl2⟩)
end
end Mine

namespace Mine
open SetTable

section
variable {prog : Program} {w : World} {A : Around} {E : Value → Shared → Prop} {s : Shared}

theorem Elems.setOf {S : Int → Bool} {a : Addr} {es : Array (Int × Value)} {ep : Nat} {t : SetTable} (he : Elems S es) (hf : t.fits es.size = true) (prog : Program) (w : World) {h : Heap} (ho : h.get? a = some (setO es ep t)) : h.SetOf (intKind prog w) a S es.size := by
  refine ⟨setO es ep t, es, ep, t, ho, ⟨rfl, rfl, rfl⟩, rfl, he.of prog w, fun k => ?_, ?_, hf, rfl⟩
  · rw [he.mem]
    constructor
    · intro hm
      obtain ⟨e, hem, hek⟩ := List.mem_map.mp hm
      obtain ⟨k', tok', hk', rfl⟩ := he.each e hem
      refine ⟨_, hem, ?_⟩
      have : (k' : Int) = k := hek
      simp [intKind, Value.isInt, this]
    · rintro ⟨e, hem, hek⟩
      obtain ⟨k', tok', hk', rfl⟩ := he.each e hem
      have : (k' : Int) = k := by simpa [intKind, Value.isInt] using hek
      exact List.mem_map.mpr ⟨_, hem, this⟩
  · have := he.size_le
    have : scanBound = 4096 := rfl
    omega

/-- a set that may bear dummies: good for looking, and for taking out -/
structure WTab (es : Array (Int × Value)) (t : SetTable) : Prop where
  plain : t.plain = true
  size : t.place.size = es.size
  fill : t.fill ≤ t.mask
theorem WTab.fits {es : Array (Int × Value)} {t : SetTable} (h : WTab es t) : t.fits es.size = true := by
  unfold SetTable.fits; simp [h.size, h.fill]
theorem Tab.weak {S : Int → Bool} {es : Array (Int × Value)} {t : SetTable} (h : Tab es t) (he : Elems S es) : WTab es t := by
  have := h.fits he
  unfold SetTable.fits at this
  simp at this
  exact ⟨h.plain, this.1, this.2⟩

theorem eraseAt_toList {α : Type} (xs : Array α) (p : Nat) : (eraseAt xs p).toList = xs.toList.take p ++ xs.toList.drop (p + 1) := by
  unfold eraseAt
  simp [List.take_of_length_le]

theorem Elems.erase {S : Int → Bool} {es : Array (Int × Value)} (h : Elems S es) {j : Nat} {k : Int} {v : Value} (hj : es[j]? = some (k, v)) : Elems (fun i => S i && !decide (i = k)) (eraseAt es j) := by
  have hlt : j < es.toList.length := by simpa using (Array.getElem?_eq_some_iff.mp hj).1
  have hsplit : es.toList = es.toList.take j ++ (k, v) :: es.toList.drop (j + 1) := by
    have e : es.toList[j] = (k, v) := by
      have := (Array.getElem?_eq_some_iff.mp hj).2
      simpa using this
    rw [← e, ← List.drop_eq_getElem_cons hlt, List.take_append_drop]
  have hnd := h.nodup
  rw [hsplit, List.map_append, List.map_cons] at hnd
  have hnd' := List.perm_middle.nodup_iff.mp hnd
  rw [List.nodup_cons] at hnd'
  refine ⟨fun e he => ?_, ?_, fun i => ?_⟩
  · rw [eraseAt_toList] at he
    refine h.each e ?_
    rw [hsplit]
    rcases List.mem_append.mp he with h | h
    · exact List.mem_append.mpr (.inl h)
    · exact List.mem_append.mpr (.inr (.tail _ h))
  · rw [eraseAt_toList, List.map_append]; exact hnd'.2
  · rw [eraseAt_toList, List.map_append]
    simp only [Bool.and_eq_true, Bool.not_eq_true', decide_eq_false_iff_not, h.mem]
    rw [hsplit]
    simp only [List.map_append, List.map_cons, List.mem_append, List.mem_cons]
    rw [← hsplit]
    constructor
    · rintro ⟨h1 | h1 | h1, h2⟩
      · exact .inl h1
      · exact absurd h1 h2
      · exact .inr h1
    · intro h1
      have hne : i ≠ k := by
        rintro rfl
        exact hnd'.1 (List.mem_append.mpr h1)
      exact ⟨h1.elim .inl fun h => .inr (.inr h), hne⟩

theorem eraseAt_size {α : Type} {xs : Array α} {p : Nat} (h : p < xs.size) : (eraseAt xs p).size = xs.size - 1 := by
  rw [← Array.length_toList, eraseAt_toList]
  simp; omega

theorem WTab.drop {es : Array (Int × Value)} {t : SetTable} (h : WTab es t) {j : Nat} (hj : j < es.size) : WTab (eraseAt es j) (t.drop j) := by
  have hp : j < t.place.size := by rw [h.size]; exact hj
  unfold SetTable.drop
  rw [Array.getElem?_eq_getElem hp]
  refine ⟨h.plain, ?_, ?_⟩
  · show (eraseAt t.place j).size = _
    rw [eraseAt_size hp, eraseAt_size hj, h.size]
  · have hf := h.fill
    unfold SetTable.fill at hf ⊢
    show (eraseAt t.place j).size + (insertAt t.dummies _ _).size ≤ t.mask
    rw [eraseAt_size hp, ← Array.length_toList (xs := insertAt _ _ _), insertAt_toList, insAt_length]
    simp
    omega

theorem wp_sizeOf {a : Addr} {es : Array (Int × Value)} {ep : Nat} {t : SetTable} {Q : Nat → Shared → Prop} (ho : s.heap.get? a = some (setO es ep t)) (hf : t.fits es.size = true) (h : Q es.size s) : wpAny (model prog w) A (Builtin.Frozenset.sizeOf a) Q E s := by
  unfold Builtin.Frozenset.sizeOf setEntries
  exact wpAny_bind (wpAny_bind (wpAny_setState_of (o := setO es ep t) ho rfl hf (wpAny_pure (wpAny_pure h))))

end
end Mine

namespace Mine
open SetTable

section
variable {prog : Program} {w : World} {A : Around} {E : Value → Shared → Prop} {s : Shared} {l r : Addr} {S S' : Int → Bool} {es es' : Array (Int × Value)} {ep ep' : Nat} {t t' : SetTable} {Q : Value → Shared → Prop}

end

section
variable {C : Cx} {E : Value → Shared → Prop} {σ : AS}

theorem setRel_new (w : World) : SetRel w (fun _ => false) (setO #[] 0 (.fresh 0 0 (ledOf w))) := ⟨_, _, _, rfl, Elems.empty, Tab.new 0 0 _, rfl⟩

theorem A_set0 {Q : PV → AS → Prop} (h : ∀ d, σ.hp d = none → Q (.ref d) (σ.pt d (.set fun _ => false))) : ACall C (.type "set") [] Q E σ := fun us hus s r => by
  cases hus
  exact wp_set0 ⟨.ref _, _, .ref _, r.toH (r.heap.alloc (heap_size_none _) (fun b o e => Heap.get?_push_of_some _ e) (Heap.get?_push_size _ rfl) (p := .set fun _ => false) (setRel_new C.G.w)), h _ (r.heap.fresh (heap_size_none _)).2.2.2⟩

theorem M_add {l : Addr} {S : Int → Bool} {pl : Sem Bool} (hl : σ.hp l = some (.set S)) : AMeth C (.ref l) (Str.ofString "add") pl "set.add" σ := fun u hu s r Q E h => by
  cases hu
  obtain ⟨ob, ho, es, ep, t, rfl, he, ht, hled⟩ := r.heap.obj l _ hl
  exact getMethod_set_add (he.setOf (ht.fits he) C.G.prog C.G.w ho) h

theorem A_add {l : Addr} {S : Int → Bool} {k : Nat} {Q : PV → AS → Prop} (hl : σ.hp l = some (.set S)) (hk : k < 12) (h : Q .none (σ.pt l (.set fun j => S j || decide (j = k)))) : ACall C (.builtin "set.add") [.ref l, .int k] Q E σ := fun us hus s r => by
  cases hus with
  | cons h1 h2 =>
    cases h2 with
    | cons h2 h3 =>
      cases h1; cases h2; cases h3
      obtain ⟨ob, ho, es, ep, t, rfl, he, ht, hled⟩ := r.heap.obj l _ hl
      refine wpAny_call_entry F.slot_set_add (setO_type ho) F.entry_set_add ?_ (F.args_set_add_2 _ _)
      unfold Builtin.«set.add» Builtin.Frozenset.oneOther
      simp only [List.isEmpty_nil, bind_assoc]
      unfold Builtin.Frozenset.addrOf setAdd
      refine wpAny_bind (wpAny_pure ?_)
      try dsimp only
      refine wpAny_bind (wpAny_pure ?_)
      try dsimp only
      refine wpAny_bind ?_
      refine wpAny_holding ?_
      refine wpAny_bind (wpAny_pyHash_int ?_)
      rw [hashInt_small hk]
      refine wp_setAddHashed (s := { s with toks := s.toks + 1 }) ho he ht hk fun h' es' ep' t' hs ho' he' ht' hl' => ?_
      show wpAny _ _ (ret Value.none) _ _ _
      exact wpAny_pure ⟨_, rfl, .none, _, .none, r.to (r.heap.change hl hs ho' (p' := .set fun j => S j || decide (j = k)) ⟨es', ep', t', rfl, he', ht', hl'.trans hled⟩), h⟩

theorem B_inS {l : Addr} {S : Int → Bool} {x : Int} {Q : PV → AS → Prop} (hl : σ.hp l = some (.set S)) (h : Q (.bool (S x)) σ) : ABin C (compareOp .In) (.int x) (.ref l) Q E σ := fun _ _ h1 h2 s r => by
  cases h1; cases h2
  obtain ⟨ob, ho, es, ep, t, rfl, he, ht, hled⟩ := r.heap.obj l _ hl
  exact wpAny_inSet_of (knd := intKind C.G.prog C.G.w) (k := x) (by simp [intKind, Value.isInt]) rfl (he.setOf (ht.fits he) C.G.prog C.G.w ho) ⟨_, σ, .bool _, r.tok, h⟩
theorem B_orS {l b : Addr} {S S' : Int → Bool} {Q : PV → AS → Prop} (hl : σ.hp l = some (.set S)) (hb : σ.hp b = some (.set S')) (h : ∀ d, σ.hp d = none → Q (.ref d) (σ.pt d (.set fun j => S j || S' j))) :
    ABin C (binaryOp .BitOr) (.ref l) (.ref b) Q E σ := fun _ _ h1 h2 s r => by
  cases h1; cases h2
  obtain ⟨ob, ho, es, ep, t, rfl, he, ht, hled⟩ := r.heap.obj l _ hl
  obtain ⟨ob', ho', es', ep', t', rfl, he', ht', hled'⟩ := r.heap.obj b _ hb
  exact wp_union ho he ht hled ho' he' ht' hled' fun h' es₂ ep₂ t₂ hk hr₂ he₂ ht₂ hl₂ => ⟨.ref _, _, .ref _, r.toH (r.heap.alloc (heap_size_none _) hk hr₂ (p := .set fun j => S j || S' j) ⟨es₂, ep₂, t₂, rfl, he₂, ht₂, hl₂⟩), h _ (r.heap.fresh (heap_size_none _)).2.2.2⟩

/-- a set, with or without dummies -/
def IsSet (o : Option PO) (S : Int → Bool) : Prop := o = some (.set S) ∨ o = some (.wset S)
theorem IsSet.obj {h : Heap} {a : Addr} {S : Int → Bool} (hs : IsSet (σ.hp a) S) (r : RelH C σ h) : ∃ es ep t, h.get? a = some (setO es ep t) ∧ Elems S es ∧ WTab es t := by
  rcases hs with hs | hs
  · obtain ⟨ob, ho, es, ep, t, rfl, he, ht, hled⟩ := r.obj a _ hs
    exact ⟨es, ep, t, ho, he, ht.weak he⟩
  · obtain ⟨ob, ho, es, ep, t, rfl, he, hp, hsz, hf⟩ := r.obj a _ hs
    exact ⟨es, ep, t, ho, he, ⟨hp, hsz, hf⟩⟩

theorem wp_mainModule {s : Shared} {Q : Bool → Shared → Prop} (r : Rel C σ s) (h : ∀ b, Q b s) : wpAny (model C.G.prog C.G.w) C.A (inMainModule C.env) Q E s := by
  obtain ⟨c, o, vs, hc, ho, hd⟩ := r.1.code
  unfold inMainModule
  rw [hc, if_neg (show ¬ ((Value.ref c == Value.none) = true) from fun h => Bool.false_ne_true h)]
  refine wpAny_bind (wpAny_fieldsOf (r.heap.keep _ _ (r.1.base _ _ ho)) hd ?_)
  split
  · exact wpAny_bind (wpAny_askSetting (wpAny_pure (h _)))
  · exact wpAny_pure (h _)

/-- {e}: a set of one -/
theorem AV_set1 {e : Expr} {pos : Pos} {Q : PV → AS → Prop} (h : ∀ d, σ.hp d = none → AV C (eval e C.env) (fun p σ₁ => ∃ k : Nat, k < 12 ∧ p = .int k ∧ σ₁.hp d = some (.set fun _ => false) ∧ Q (.ref d) (σ₁.pt d (.set fun j => decide (j = k)))) E (σ.pt d (.set fun _ => false)))
    (hp : plainArgs [e] = true := by rfl) : AV C (eval (.Set [e] 0 pos) C.env) Q E σ := by
  intro s r
  rw [arm_eval_Set]
  refine wpAny_bind (wpAny_standAt ?_)
  refine wpAny_bind (wp_mainModule r fun b => ?_)
  rw [starEach_plain _ hp]
  show wpAny _ _ (setDisplay (displayRoad 0 [e]) b [(false, do let v ← eval e C.env; standAt pos; pure v)]) _ _ _
  unfold setDisplay
  have hroad : displayRoad 0 [e] = .oneByOne := rfl
  rw [hroad]
  rw [if_neg (by decide)]
  refine wpAny_bind (wp_newSet ?_)
  dsimp only
  refine wpAny_bind (wpAny_holding ?_)
  have hS : (s.heap.push (setO #[] 0 (.fresh 0 0 (ledOf C.G.w)))).get? s.heap.objs.size = some (setO #[] 0 (.fresh 0 0 (ledOf C.G.w))) := Heap.get?_push_size _ rfl
  have r1 : Rel C (σ.pt s.heap.objs.size (.set fun _ => false)) { s with heap := s.heap.push (setO #[] 0 (.fresh 0 0 (ledOf C.G.w))) } := r.toH (r.heap.alloc (heap_size_none _) (fun b o e => Heap.get?_push_of_some _ e) hS (p := .set fun _ => false) (setRel_new C.G.w))
  refine wpAny_bind ?_
  show wpAny _ _ (evalAll [do let v ← eval e C.env; standAt pos; pure v]) _ _ _
  show wpAny _ _ (do let v ← (do let v ← eval e C.env; standAt pos; pure v); let vs ← holding [v] (evalAll []); pure (v :: vs)) _ _ _
  refine wpAny_bind (wpAny_bind (wpAny_mono (h _ (r.heap.fresh (heap_size_none _)).2.2.2 _ r1) (fun u s1 ⟨p, σ₁, hu, r₁, k, hk, hpk, hd, hq⟩ => wpAny_bind (wpAny_standAt (wpAny_pure ?_))) fun _ _ x => x))
  subst hpk
  cases hu
  refine wpAny_bind (wpAny_holding (wpAny_pure (wpAny_pure ?_)))
  refine wpAny_bind (wpAny_holding ?_)
  rename_i tk
  obtain ⟨ob, ho, es, ep, t, rfl, he, ht, hled⟩ := r₁.heap.obj _ _ hd
  refine wpAny_bind ?_
  rw [List.forIn_cons]
  refine wpAny_bind (wpAny_bind ?_)
  unfold setAdd
  refine wpAny_holding (wpAny_bind (wpAny_pyHash_int ?_))
  rw [hashInt_small hk]
  refine wp_setAddHashed (s := { s1 with toks := s1.toks + 1 }) ho he ht hk fun h' es' ep' t' hs ho' he' ht' hl' => ?_
  refine wpAny_pure ?_
  dsimp only
  rw [List.forIn_nil]
  refine wpAny_pure ?_
  rw [if_neg (by decide)]
  refine wpAny_pure ?_
  show wpAny _ _ (forIn [] PUnit.unit _ >>= _) _ _ _
  refine wpAny_bind ?_
  rw [List.forIn_nil]
  refine wpAny_pure (wpAny_pure (wpAny_pure ⟨.ref _, _, .ref _, r₁.to (r₁.heap.change hd hs ho' (p' := .set fun j => decide (j = k)) ⟨es', ep', t', rfl, ⟨he'.each, he'.nodup, fun j => by rw [← he'.mem j]; simp⟩, ht', hl'.trans hled⟩), hq⟩))
end
end Mine

namespace Mine

def ers (hp : Addr → Option PO) (L : Addr) : Addr → Option PO := fun a => if a = L then none else hp a
theorem ers_ne {hp : Addr → Option PO} {L a : Addr} (h : a ≠ L) : ers hp L a = hp a := if_neg h
theorem ers_some {hp : Addr → Option PO} {L a : Addr} {p : PO} (h : ers hp L a = some p) : a ≠ L ∧ hp a = some p := by
  unfold ers at h
  split at h
  · cases h
  · next hn => exact ⟨hn, h⟩

/-- the namespaces stay -/
def NsKept (f g : Addr → Option PO) : Prop := ∀ b m, f b = some (.ns m) → g b = some (.ns m)
theorem NsKept.refl (f : Addr → Option PO) : NsKept f f := fun _ _ e => e
theorem NsKept.trans {f g k : Addr → Option PO} (h : NsKept f g) (h' : NsKept g k) : NsKept f k := fun b m e => h' b m (h b m e)
theorem Ext.ns {f g : Addr → Option PO} (h : Ext f g) : NsKept f g := fun b m e => h b _ e

theorem OR.slots {w : World} {m : Str → Option Value} {o : Obj} (h : OR w (.ns m) o) (sl : Array (Option Value)) : OR w (.ns m) { o with slots := sl } := h
theorem OR.ns {w : World} {h : Heap} {a : Addr} {m : Str → Option Value} {o : Obj} (ho : h.get? a = some o) (hr : OR w (.ns m) o) : h.Ns a m := by
  obtain ⟨es, ep, hd, hr⟩ := hr
  exact ⟨o, es, ep, ho, hd, hr⟩

/-- the heap after a flight: all stays but the frames' slots -/
theorem RelH.flown {C : Cx} {σ : AS} {h h' : Heap} (r : RelH C σ h) (fs : List Addr) (hk : ∀ b o, h.get? b = some o → b ∉ fs → h'.get? b = some o) (hu : h.UpToSlots h')
    (hf : ∀ b ∈ fs, C.fz b = none) (hc : ∀ x c, C.env.cells.lookup x = some c → c ∉ fs) (hh : ∀ b ∈ fs, ∀ p, σ.hp b = some p → ∃ m, p = .ns m) : RelH C σ h' where
  keep := fun b o e => hk b o (r.keep b o e) fun hm => by rw [hf b hm] at e; cases e
  ns := let ⟨m, hm, hx⟩ := r.ns; ⟨m, hu.ns hm, hx⟩
  cell := fun x v e k => let ⟨c, u, hc', ⟨o, ho, hd⟩, hv⟩ := r.cell x v e k; ⟨c, u, hc', ⟨o, hk _ _ ho (hc x c hc'), hd⟩, hv⟩
  kinds := r.kinds
  cells := fun x c e => let ⟨v, o, ho, hd⟩ := r.cells x c e; ⟨v, o, hk _ _ ho (hc x c e), hd⟩
  obj := fun a p e => by
    obtain ⟨ob, ho, hr⟩ := r.obj a p e
    by_cases hm : a ∈ fs
    · obtain ⟨m, rfl⟩ := hh a hm p e
      obtain ⟨es, ep, hd, hr'⟩ := id hr
      obtain ⟨sl, hs⟩ := hu a ob ho fun vs q => by rw [hd] at q; cases q
      exact ⟨_, hs, hr.slots sl⟩
    · exact ⟨ob, hk a ob ho hm, hr⟩
  free := r.free

/-- back from a frame below which the caller's frame stands as an object -/
theorem RelH.backS {C C' : Cx} {σ σ' : AS} {h h' : Heap} {L : Addr} {m : Str → Option Value} (r : RelH C σ h) (b : CBelow C L) (hf : C'.fz = frz h (upd σ.hp C.env.locals (.ns m)) L) (hG : C'.G = C.G)
    (hx : ∀ x v, σ.loc x = some v → C.env.kindOf x = some .local → ∃ u, m x = some u ∧ VR v u) (hcn : ∀ x c, C.env.cells.lookup x = some c → c ≠ C.env.locals) (hown : C.fz C.env.locals = none)
    (hm : σ'.hp C.env.locals = some (.ns m)) (r' : RelH C' σ' h') : RelH C ⟨σ.loc, ers σ'.hp C.env.locals⟩ h' := by
  obtain ⟨n1, n2, n3⟩ := r.notHp
  have keep : ∀ a o, a < L → a ≠ C.env.locals → σ.hp a = none → h.get? a = some o → h'.get? a = some o := fun a o ha hne hn ho => r'.keep a o (by
    rw [hf]; exact frz_of ha (by unfold upd; rw [if_neg hne]; exact hn) ho)
  exact {
    keep := fun a o e => keep a o (b.fz a o e) (by rintro rfl; rw [hown] at e; cases e) (n1 a o e) (r.keep a o e)
    ns := by
      obtain ⟨ob, ho, hr⟩ := r'.obj _ _ hm
      exact ⟨m, hr.ns ho, hx⟩
    cell := fun x v e k => let ⟨c, u, hc, ⟨o, ho, hd⟩, hv⟩ := r.cell x v e k; ⟨c, u, hc, ⟨o, keep _ _ (b.cell x c hc) (hcn x c hc) (n3 x c hc) ho, hd⟩, hv⟩
    kinds := r.kinds
    cells := fun x c e => let ⟨v, o, ho, hd⟩ := r.cells x c e; ⟨v, o, keep _ _ (b.cell x c e) (hcn x c e) (n3 x c e) ho, hd⟩
    obj := fun a o e => by rw [← hG]; exact r'.obj a o (ers_some e).2
    free := fun a o e => by
      obtain ⟨hne, e⟩ := ers_some e
      have h1 := (r'.free a o e).1
      rw [hf] at h1
      by_cases hlt : a < L
      · unfold frz at h1
        rw [if_pos hlt] at h1
        split at h1
        · have := r.fresh h1; exact ⟨this.1, this.2.1, this.2.2.1⟩
        · next p hp => unfold upd at hp; rw [if_neg hne] at hp; exact r.free a p hp
      · refine ⟨?_, hne, ?_⟩
        · cases e' : C.fz a with
          | none => rfl
          | some ob => exact absurd (b.fz a ob e') hlt
        · rintro x c e' rfl; exact hlt (b.cell x _ e') }

abbrev frs (env : Env) (outer : List Env) : List Addr := (env :: outer).filterMap (·.frame)

/-- the frames below stand as objects -/
structure FrOK (C : Cx) (outer : List Env) (hp : Addr → Option PO) : Prop where
  stack : C.A.frames = some (C.env :: outer)
  fr : C.env.frame = some C.env.locals
  each : ∀ env ∈ outer, env.scope.kind ≠ .module ∧ ∃ L m, env.frame = some L ∧ hp L = some (.ns m)

theorem funFrames_each {h B : Heap} : ∀ {l : List Env}, (∀ env ∈ l, env.scope.kind ≠ .module ∧ ∃ L o, env.frame = some L ∧ B.get? L = none ∧ h.get? L = some o ∧ ∀ vs, o.data ≠ .fields vs) → h.FunFrames B l
  | [], _ => trivial
  | env :: l, hl => ⟨(hl env (.head _)).1, (hl env (.head _)).2, funFrames_each fun e he => hl e (.tail _ he)⟩

theorem FrOK.frames {C : Cx} {outer : List Env} {σ : AS} {h : Heap} (F : FrOK C outer σ.hp) (ok : CxOK C) (r : RelH C σ h) : h.FunFrames (hideAll h (frs C.env outer)) (C.env :: outer) := by
  refine funFrames_each fun env he => ?_
  cases he with
  | head =>
    obtain ⟨m, ⟨o, es, ep, ho, hd, _⟩, _⟩ := r.ns
    refine ⟨(by rw [ok.kind]; intro q; cases q), C.env.locals, o, F.fr, hideAll_none _ ?_, ho, fun vs q => by rw [hd] at q; cases q⟩
    exact List.mem_filterMap.mpr ⟨C.env, .head _, F.fr⟩
  | tail _ he =>
    obtain ⟨hk, L, m, hf, hp⟩ := F.each env he
    obtain ⟨o, ho, hr⟩ := r.obj _ _ hp
    obtain ⟨es, ep, hd, _⟩ := hr
    exact ⟨hk, L, o, hf, hideAll_none _ (List.mem_filterMap.mpr ⟨env, .tail _ he, hf⟩), ho, fun vs q => by rw [hd] at q; cases q⟩

section
variable {M : Model} {A : Around} {E : Value → Shared → Prop} {s : Shared}

theorem noteFrame_firstW {base h : Heap} {env : Env} {outer : List Env} {L e : Addr} {cls : Value} {args : List Value} {Q : Unit → Shared → Prop}
    (hfr : A.frames = some (env :: outer)) (hf : env.frame = some L) (hkb : base.StaysIn h) (hl : h.FunFrames base (env :: outer)) (hx : Heap.MadeExcOf h s.heap e cls args)
    (hQ : ∀ h' t, Heap.HeldW base (env :: outer) e cls (.ref t) L h' → h'.TupAt t args → base.get? t = none → s.heap.UpToSlots h' → Q () { s with heap := h' }) : wpAny M A (noteFrame (.ref e) env) Q E s := by
  obtain ⟨t, he, htn, ht⟩ := hx.there
  have fresh : ∀ b, h.get? b = none → base.get? b = none := fun b hb => by
    cases hq : base.get? b with
    | none => rfl
    | some o' => have := hkb b o' hq; rw [hb] at this; cases this
  unfold noteFrame
  simp only [hf]
  refine wpAny_bind (wpAny_field (vs := #[.ref t, .none, .none, .none, .bool false, .none]) (x := .none) he rfl rfl ?_)
  rw [if_neg (by decide)]
  refine wpAny_entryW (a0 := .ref t) hfr (hl.of_keeps fun b o hb _ => ⟨o, hx.keeps b o hb, rfl⟩) hf he (fun b o hb => hx.keeps b o (hkb b o hb)) (fresh e hx.new) rfl (show 1 < 6 by decide) rfl fun h' hN => ?_
  obtain ⟨k1, k2, k3, k4⟩ := hN
  exact hQ h' t ⟨k1, fresh e hx.new, k2, k3⟩ (Heap.TupAt.of_slots ⟨_, _, ht, rfl, rfl⟩ k4) (fresh t htn) k4

theorem cameBack_heldW {base : Heap} {env : Env} {l : List Env} {L e : Addr} {cls a0 : Value} (hf : env.frame = some L) (hh : Heap.HeldW base l e cls a0 L s.heap)
    (hQ : ∀ h', Heap.HeldW base l e cls a0 L h' → s.heap.UpToSlots h' → E (.ref e) { s with heap := h' }) : cameBackBy M A env E (.ref e) s := by
  obtain ⟨hkb, hen, hl, oe, vs, T, oT, ts, he, hcls, hd, h1, hnT, hTe, hT, hdT, h3⟩ := hh
  have hsz3 : 3 < ts.size := (Array.getElem?_eq_some_iff.mp h3).1
  have other : ∀ b, b ≠ T → (s.heap.update T (Obj.mapFields (·.setIfInBounds 3 ((some L).elim Value.none fun f => rawInt f)))).get? b = s.heap.get? b :=
    fun b hb => Heap.get?_update_other _ _ (Ne.symm hb)
  have noRecord : ∀ b o, s.heap.get? b = some o → (∀ vs, o.data ≠ .fields vs) → b ≠ T := fun b o hb hnf q => by
    rw [q, hT] at hb; injection hb with hb; subst hb; exact hnf ts hdT
  unfold cameBackBy
  refine wpAny_bind (wpAny_field he hd h1 ?_)
  rw [if_neg (show ¬ ((Value.ref T == Value.none) = true) from by simp), hf]
  unfold setFlight
  refine wpAny_bind (wpAny_field he hd h1 ?_)
  rw [if_pos (show (Value.ref T != Value.none) = true from by simp)]
  refine wpAny_setField hT hdT hsz3 (hQ _ ⟨fun b o hbo => (other b fun q => by rw [q, hnT] at hbo; cases hbo).trans (hkb b o hbo), hen,
    hl.of_keeps fun b o hb hnf => ⟨o, (other b (noRecord b o hb hnf)).trans hb, rfl⟩, ?_⟩ fun b o hb hnf => ⟨o.slots, (other b (noRecord b o hb hnf)).trans hb⟩)
  exact ⟨oe, vs, T, _, _, (other e (Ne.symm hTe)).trans he, hcls, hd, h1, hnT, hTe, Heap.get?_update_self _ hT (Obj.isFreed_of_fields (Obj.data_mapFields hdT _)), Obj.data_mapFields hdT _, by simp [hsz3]⟩

theorem leaves_heldW {base : Heap} {env : Env} {outer : List Env} {L e : Addr} {cls a0 : Value} {Q : Unit → Shared → Prop} (hf : env.frame = some L)
    (hh : Heap.HeldW base (env :: outer) e cls a0 L s.heap) (hQ : ∀ h', Heap.FlyingW base outer e cls a0 h' → s.heap.UpToSlots h' → Q () { s with heap := h' }) : wpAny M A (leaving env (.ref e)) Q E s := by
  unfold leaving
  refine wpAny_bind (wpAny_noteFrame_againW hf hh.2.2.2 ?_)
  refine wpAny_landsW hh fun h' hfl hu => ?_
  obtain ⟨k1, k2, ⟨_, _, k3⟩, k4⟩ := hfl
  exact hQ h' ⟨k1, k2, k3, k4⟩ hu

/-- out of the loop and out of the frame -/
theorem raiseOut {base h : Heap} {env : Env} {outer : List Env} {L e : Addr} {cls : Value} {args : List Value}
    (hfr : A.frames = some (env :: outer)) (hf : env.frame = some L) (hkb : base.StaysIn h) (hl : h.FunFrames base (env :: outer)) (hx : Heap.MadeExcOf h s.heap e cls args)
    (hQ : ∀ h' t, Heap.FlyingW base outer e cls (.ref t) h' → h'.TupAt t args → base.get? t = none → h.UpToSlots h' → E (.ref e) { s with heap := h' }) :
    notedBy M A env (cameBackBy M A env fun x s' => wpAny M A (leaving env x) (fun _ s'' => E x s'') (fun x' s'' => E x' s'') s') (.ref e) s := by
  unfold notedBy
  refine noteFrame_firstW hfr hf hkb hl hx fun h1 t hh htup hnew hu1 => ?_
  refine cameBack_heldW (s := { s with heap := h1 }) hf hh fun h2 hh2 hu2 => ?_
  refine leaves_heldW (s := { s with heap := h2 }) hf hh2 fun h3 hfl hu3 => ?_
  exact hQ h3 t hfl ((htup.of_slots hu2).of_slots hu3) hnew ((Heap.UpToSlots.of_keeps hx.keeps).trans ((hu1.trans hu2).trans hu3))
end

/-- what C sees when the exception comes to it from a frame above -/
def Flown (C : Cx) (outer : List Env) (msg : Str) (σ : AS) (x : Value) (s : Shared) : Prop :=
  ∃ e t tok h0 fs h tk, x = .ref e ∧ CxOK C ∧ s = { C.s0 with heap := h, toks := tk } ∧ RelH C σ h0 ∧ Heap.FlyingW (hideAll h0 fs) (C.env :: outer) e (.type "RuntimeError") (.ref t) h ∧
    h.TupAt t [.str msg tok] ∧ (hideAll h0 fs).get? t = none ∧ h0.UpToSlots h ∧ (∀ b ∈ fs, C.fz b = none ∧ ∃ o, h0.get? b = some o ∧ ∃ es ep, o.data = .dict es ep) ∧ (∀ x c, C.env.cells.lookup x = some c → c ∉ fs) ∧
    ∀ b ∈ fs, ∀ p, σ.hp b = some p → ∃ m, p = .ns m

def EFly (C : Cx) (outer : List Env) (msg : Str) (QE : AS → Prop) (x : Value) (s : Shared) : Prop := ∃ σ, Flown C outer msg σ x s ∧ QE σ

theorem fz_of_ns {C : Cx} {σ : AS} {h : Heap} (r : RelH C σ h) {a : Addr} {p : PO} (e : σ.hp a = some p) : C.fz a = none := (r.free a p e).1

/-- a called function that may raise RuntimeError(msg): the caller's frame stands in its heap as an object -/
theorem A_fnS {C : Cx} {σ : AS} {f : Fn} {vs : List PV} {Q : PV → AS → Prop} {QE : AS → Prop} {outer : List Env} {msg : Str} (hf : C.G.isFn f) (hb : 0 < C.bud)
    (F : FrOK C outer σ.hp)
    (hbind : ∀ us pm cd doc, us.length = vs.length → bindArgs (Calls.docDef f.name f.params f.body f.scope pm cd doc) ⟨us, []⟩ = pure ((f.params.args.map (·.arg)).zip us))
    (hkind : ((f.params.args.map (·.arg)).all fun x => f.scope.names.lookup x == some .local || f.scope.names.lookup x == some .cell) = true)
    (hco : f.scope.isCoroutine = false) (hgen : f.scope.isGenerator = false) (hk : f.scope.kind = .function)
    (h : ∀ C' m E', FnCx C f C' → σ.hp C.env.locals = none →
      (∀ σ₁ s₁ h' e tok, Rel C' σ₁ s₁ → Heap.MadeExcOf s₁.heap h' e (.type "RuntimeError") [.str msg tok] → NsKept (upd σ.hp C.env.locals (.ns m)) σ₁.hp → QE ⟨σ.loc, ers σ₁.hp C.env.locals⟩ →
        notedBy (model C'.G.prog C'.G.w) C'.A C'.env (cameBackBy (model C'.G.prog C'.G.w) C'.A C'.env E') (.ref e) { s₁ with heap := h' }) →
      AF C' (execs f.body C'.env) (fun fl σ' => NsKept (upd σ.hp C.env.locals (.ns m)) σ'.hp ∧ Q fl.out ⟨σ.loc, ers σ'.hp C.env.locals⟩) E'
        ⟨bindP ((f.params.args.map (·.arg)).zip vs) fun _ => none, upd σ.hp C.env.locals (.ns m)⟩) :
    ACall C (.ref f.addr) vs Q (EFly C outer msg QE) σ := by
  refine A_fnG hf hb hbind hkind hco hgen hk fun s r => ?_
  obtain ⟨m, hns, hx⟩ := r.heap.ns
  have ok := r.1
  obtain ⟨n1, n2, n3⟩ := r.heap.notHp
  refine ⟨upd σ.hp C.env.locals (.ns m), ?_, ?_, fun C' hF hB hsz hs0 hfz => ?_⟩
  · intro a p e
    unfold upd at e
    split at e
    · next ha =>
      cases e; subst ha
      obtain ⟨o, es, ep, ho, hd, hr⟩ := hns
      exact ⟨o, ho, es, ep, hd, hr⟩
    · exact r.heap.obj a p e
  · intro b o e
    have hb := ok.base b o e
    unfold upd
    rw [if_neg (by rintro rfl; rw [ok.own] at hb; cases hb)]
    exact n1 b o hb
  · refine (h C' m _ hF n2 ?_).mono fun fl σ' ⟨hk', hq⟩ h' r' => ⟨_, RelH.backS r.heap hB hfz hF.G hx ok.cellne ok.own (hk' _ m upd_here) r', hq⟩
    intro σ₁ s₁ h' e tok r₁ hmade hkept hqe
    have hstack : C'.A.frames = some (C'.env :: C.env :: outer) := by rw [hF.A]; exact Around.frames_deeper F.stack
    have hmL := hkept _ m (upd_here (f := σ.hp) (a := C.env.locals))
    have F' : FrOK C' (C.env :: outer) σ₁.hp := ⟨hstack, hF.fr, fun env he => by
      cases he with
      | head => exact ⟨(by rw [ok.kind]; intro q; cases q), C.env.locals, m, F.fr, hmL⟩
      | tail _ he =>
        obtain ⟨hk1, L1, m1, hf1, hp1⟩ := F.each env he
        refine ⟨hk1, L1, m1, hf1, hkept _ _ ?_⟩
        unfold upd
        rw [if_neg (by rintro rfl; rw [n2] at hp1; cases hp1)]
        exact hp1⟩
    have rh₁ := r₁.heap
    refine raiseOut (h := s₁.heap) (base := hideAll s₁.heap (frs C'.env (C.env :: outer))) (E := EFly C outer msg QE) hstack hF.fr (fun b o q => of_hideAll _ q) (F'.frames r₁.1 rh₁) hmade fun h'' t hfl htup htn hu => ?_
    obtain ⟨_, hh1, tk1, es1, _⟩ := id r₁
    refine ⟨⟨σ.loc, ers σ₁.hp C.env.locals⟩, ⟨e, t, tok, s₁.heap, frs C'.env (C.env :: outer), h'', s₁.toks, rfl, ok, ?_, RelH.backS r.heap hB hfz hF.G hx ok.cellne ok.own hmL rh₁, hfl, htup, htn, hu, ?_, ?_, ?_⟩, hqe⟩
    · rw [es1, hs0]
    · intro b hb
      obtain ⟨env, he, hfe⟩ := List.mem_filterMap.mp hb
      cases he with
      | head =>
        rw [hF.fr] at hfe; cases hfe
        obtain ⟨m', ⟨o, es, ep, ho, hd, _⟩, _⟩ := rh₁.ns
        refine ⟨?_, o, ho, es, ep, hd⟩
        cases e' : C.fz C'.env.locals with
        | none => rfl
        | some ob => exact absurd (hB.fz _ _ e') (Nat.lt_irrefl _)
      | tail _ he =>
        cases he with
        | head =>
          rw [F.fr] at hfe; cases hfe
          obtain ⟨o, ho, es, ep, hd, _⟩ := rh₁.obj _ _ hmL
          exact ⟨ok.own, o, ho, es, ep, hd⟩
        | tail _ he =>
          obtain ⟨hk1, L1, m1, hf1, hp1⟩ := F.each env he
          rw [hf1] at hfe; cases hfe
          refine ⟨fz_of_ns r.heap hp1, ?_⟩
          obtain ⟨_, L2, m2, hf2, hp2⟩ := F'.each env (.tail _ he)
          rw [hf1] at hf2; cases hf2
          obtain ⟨o, ho, es, ep, hd, _⟩ := rh₁.obj _ _ hp2
          exact ⟨o, ho, es, ep, hd⟩
    · intro x c hc hm
      obtain ⟨env, he, hfe⟩ := List.mem_filterMap.mp hm
      cases he with
      | head => rw [hF.fr] at hfe; cases hfe; exact absurd (hB.cell x _ hc) (Nat.lt_irrefl _)
      | tail _ he =>
        cases he with
        | head => rw [F.fr] at hfe; cases hfe; exact ok.cellne x _ hc rfl
        | tail _ he =>
          obtain ⟨hk1, L1, m1, hf1, hp1⟩ := F.each env he
          rw [hf1] at hfe; cases hfe
          exact (r.heap.free _ _ hp1).2.2 x _ hc rfl
    · intro b hb p hp
      obtain ⟨env, he, hfe⟩ := List.mem_filterMap.mp hb
      cases he with
      | head =>
        rw [hF.fr] at hfe; cases hfe
        exact absurd rfl (rh₁.free _ p (ers_some hp).2).2.1
      | tail _ he =>
        obtain ⟨_, L2, m2, hf2, hp2⟩ := F'.each env he
        rw [hf2] at hfe; cases hfe
        have := (ers_some hp).2
        rw [hp2] at this; cases this
        exact ⟨m2, rfl⟩

theorem AF_raise {C : Cx} {σ : AS} {E : Value → Shared → Prop} {msg : Str} {k : Nat} {np cp ap pos : Pos} {Q : PF → AS → Prop} (hd : C.hd = true) (hg : C.gl (Str.ofString "RuntimeError") = true) (hv : C.G.gt (Str.ofString "RuntimeError") = some (.type "RuntimeError"))
    (h : ∀ s₁ h' e tok, Rel C σ s₁ → Heap.MadeExcOf s₁.heap h' e (.type "RuntimeError") [.str msg tok] → E (.ref e) { s₁ with heap := h' }) :
    AF C (exec (.Raise (some (.Call (.Name (Str.ofString "RuntimeError") np) [.Constant (.str msg) k ap] [] cp)) none pos) C.env) Q E σ := by
  intro s r
  refine Raise_madeB F.excCall_RuntimeError F.excRaise_RuntimeError (r.1.handled hd) ?_
  refine wpAny_mono (AV_glob (C := C) (σ := σ) (E := E) (Q := fun p σ' => p = .val (.type "RuntimeError") ∧ σ' = σ) hg hv ⟨rfl, rfl⟩ (by decide) s r) (fun f s₁ ⟨p, σ', hp, r', hq, hs⟩ => ?_) fun _ _ e => e
  subst hq; subst hs
  cases hp
  refine ⟨rfl, ?_⟩
  rw [backTo_plain (by rfl)]
  refine wpAny_mono (AVs_spliced (C := C) (E := E) [Expr.Constant (.str msg) k ap] (fun ps σ'' => ps = [.str msg] ∧ σ'' = σ') σ' (AVL_cons (AV_str (AVL_nil ⟨rfl, rfl⟩))) s₁ r') (fun ws s₂ ⟨ps, σ'', hps, r'', hq, hs⟩ => ?_) fun _ _ e => e
  subst hq; subst hs
  cases hps with
  | cons h1 h2 =>
    cases h1; cases h2
    exact ⟨by size_fits, fun h' e hm => h s₂ h' e _ r'' hm.of⟩

/-- WHILE whose body may raise -/
theorem AF_whileE {C : Cx} {E : Value → Shared → Prop} {σ : AS} {test : Expr} {body orelse : List Stmt} {pos : Pos} {Q : PF → AS → Prop} (I : Nat → AS → Prop) (n : Nat) (h0 : I n σ)
    (turn : ∀ n σ', I n σ' → AB C (isTrue test C.env (eval test C.env)) (fun b σ₁ => if b = true then
        AF C (execs body C.env) (fun f σ₂ => match f with | .next => ∃ m, m < n ∧ I m σ₂ | .cont => ∃ m, m < n ∧ I m σ₂ | .brk => Q .next σ₂ | .ret u => Q (.ret u) σ₂) (notedBy (model C.G.prog C.G.w) C.A C.env (cameBackBy (model C.G.prog C.G.w) C.A C.env E)) σ₁
      else AF C (execs orelse C.env) Q (notedBy (model C.G.prog C.G.w) C.A C.env (cameBackBy (model C.G.prog C.G.w) C.A C.env E)) σ₁) (notedBy (model C.G.prog C.G.w) C.A C.env (cameBackBy (model C.G.prog C.G.w) C.A C.env E)) σ') : AF C (exec (.While test body orelse pos) C.env) Q E σ := by
  intro s r
  refine wpAny_While (codeAny_whileLoop (fun n s' => ∃ σ', I n σ' ∧ Rel C σ' s') ?_ n ⟨σ, h0, r⟩)
  rintro n s' ⟨σ', hI, r'⟩
  refine wpAG (turn n σ' hI s' r') (fun b s₁ b' σ₁ hb r₁ hq => ?_) fun _ _ e => e
  subst hb
  cases b' with
  | true =>
    refine wpAG (hq s₁ r₁) (fun f s₂ pf σ₂ hf r₂ hq => ?_) fun _ _ e => e
    cases hf with
    | next => obtain ⟨m, hm, hI⟩ := hq; exact ⟨m, hm, σ₂, hI, r₂⟩
    | cont => obtain ⟨m, hm, hI⟩ := hq; exact ⟨m, hm, σ₂, hI, r₂⟩
    | brk => exact ⟨.next, σ₂, .next, r₂, hq⟩
    | ret hv => exact ⟨_, σ₂, .ret hv, r₂, hq⟩
  | false => exact wpAG (hq s₁ r₁) (fun f s₂ pf σ₂ hf r₂ hq => ⟨pf, σ₂, hf, r₂, hq⟩) fun _ _ e => e

def AS.del (σ : AS) (x : Str) : AS := { σ with loc := fun y => if y = x then none else σ.loc y }

/-- the handler's name goes -/
theorem AU_nameGoes {C : Cx} {σ : AS} {E : Value → Shared → Prop} {x : Str} {pos : Pos} {Q : Unit → AS → Prop} (hw : C.env.kindOf x = some .local) (h : Q () (σ.del x)) :
    AU C (do bindName C.env x .none; unbindBehindTheSuite C.env x pos) Q E σ := by
  intro s r
  have ok := r.1
  have rh := r.heap
  obtain ⟨m, hm, hx⟩ := rh.ns
  have hp : (C.env.scope.kind == .class || (C.env.scope.kind == .module && C.env.locals != C.env.globals)) = false := by rw [ok.kind]; rfl
  refine wpAny_bind (wpAny_bindName (wpAny_storeName_local hw hm (fun h₁ hn₁ hs₁ => ?_) hp))
  unfold unbindBehindTheSuite
  refine wpAny_onRaise ?_
  unfold unbindName
  refine wpAny_bind (wpAny_point (wpAny_bind ?_))
  unfold deleteName
  simp only [hw, hp]
  rw [if_neg (by decide)]
  refine wpAny_bind (wpAny_nsDel_keeps hn₁ fun h₂ v hn₂ hs₂ => ?_)
  simp only [if_true, Option.isSome_some, Bool.not_true, Bool.false_eq_true, if_false]
  refine wpAny_pure (wpAny_point ⟨(), σ.del x, trivial, r.to ?_, h⟩)
  have hs := hs₁.trans hs₂
  exact {
    keep := fun b o e => (hs.2 b (by rintro rfl; rw [ok.own] at e; cases e)).trans (rh.keep b o e)
    ns := ⟨_, hn₂, fun y w e k => by
      dsimp only [AS.del] at e
      split at e
      · cases e
      · next hb => rw [if_neg hb]; simp only [if_neg hb]; exact hx y w e k⟩
    cell := fun y w e k => by
      dsimp only [AS.del] at e
      split at e
      · cases e
      · exact let ⟨c, u, hc, hu, hv⟩ := rh.cell y w e k; ⟨c, u, hc, hu.sameBut hs (ok.cellne y c hc), hv⟩
    kinds := fun y w e => by
      dsimp only [AS.del] at e
      split at e
      · cases e
      · exact rh.kinds y w e
    cells := fun y c e => let ⟨v, hv⟩ := rh.cells y c e; ⟨v, hv.sameBut hs (ok.cellne y c e)⟩
    obj := fun a o e => let ⟨ob, ho, hr⟩ := rh.obj a o e; ⟨ob, (hs.2 a (rh.free a o e).2.1).trans ho, hr⟩
    free := rh.free }

/-- in a handler's suite -/
def Cx.marked (C : Cx) (e : Addr) : Cx := { C with A := C.A.mark (some (.ref e)), hd := false }

theorem Rel.mark {C : Cx} {σ : AS} {s : Shared} {e : Addr} (r : Rel C σ s) : Rel (C.marked e) σ s := by
  obtain ⟨ok, h, tk, rfl, rh⟩ := r
  exact ⟨⟨ok.ok, ok.kind, ok.globals, ok.builtins, ok.own, ok.cellne, ok.celldist, ok.wrcell, ok.wrhas, ok.glhas, (fun q => by cases q), ok.cvhas, ok.cvkind, ok.depth, ok.units, ok.base, ok.code⟩, h, tk, rfl,
    ⟨rh.keep, rh.ns, rh.cell, rh.kinds, rh.cells, rh.obj, rh.free⟩⟩
theorem Rel.unmark {C : Cx} {σ : AS} {s : Shared} {e : Addr} (ok : CxOK C) (r : Rel (C.marked e) σ s) : Rel C σ s := by
  obtain ⟨_, h, tk, rfl, rh⟩ := r
  exact ⟨ok, h, tk, rfl, ⟨rh.keep, rh.ns, rh.cell, rh.kinds, rh.cells, rh.obj, rh.free⟩⟩

/-- two new objects come in sight -/
theorem RelH.sees {C : Cx} {σ : AS} {h : Heap} {a : Addr} {p : PO} {o : Obj} (r : RelH C σ h) (ho : h.get? a = some o) (hr : OR C.G.w p o) (h1 : C.fz a = none) (h2 : a ≠ C.env.locals) (h3 : ∀ x c, C.env.cells.lookup x = some c → a ≠ c) : RelH C (σ.pt a p) h where
  keep := r.keep
  ns := r.ns
  cell := r.cell
  kinds := r.kinds
  cells := r.cells
  obj := fun b q e => by
    unfold AS.pt upd at e
    dsimp only at e
    split at e
    · next hb => subst hb; cases e; exact ⟨_, ho, hr⟩
    · exact r.obj b q e
  free := fun b q e => by
    unfold AS.pt upd at e
    dsimp only at e
    split at e
    · next hb => subst hb; exact ⟨h1, h2, h3⟩
    · exact r.free b q e

/-- TRY with one clause for RuntimeError -/
theorem AF_try {C : Cx} {σ : AS} {E : Value → Shared → Prop} {body : List Stmt} {n : Str} {b₀ : Stmt} {suite : List Stmt} {np hp pos : Pos} {msg : Str} {outer : List Env} {QE : AS → Prop} {Q : PF → AS → Prop}
    (hst : C.A.frames = some (C.env :: outer)) (hfr : C.env.frame = some C.env.locals) (hg : C.gl (Str.ofString "RuntimeError") = true) (hv : C.G.gt (Str.ofString "RuntimeError") = some (.type "RuntimeError"))
    (hn : C.env.kindOf n = some .local) (hw : C.wr n = true)
    (hbody : AF C (execs body C.env) Q (EFly C outer msg QE) σ)
    (hsuite : ∀ σ₁ e t E', QE σ₁ → σ₁.hp e = none → σ₁.hp t = none → e ≠ t →
      AF (C.marked e) (execs (b₀ :: suite) (C.marked e).env) (fun f σ₂ => Q f (σ₂.del n)) E' (((σ₁.pt e (.exc t)).pt t (.tup [.str msg])).st n (.ref e))) :
    AF C (exec (.Try body [.ExceptHandler (some (.Name (Str.ofString "RuntimeError") np)) (some n) (b₀ :: suite) hp] [] [] pos) C.env) Q E σ := by
  intro s r
  refine wpAny_Try_except ?_
  refine wpAG (hbody s r) (fun f s₁ pf σ₁ hf r₁ hq => ?_) fun x s₁ hx => ?_
  · cases hf with
    | next => exact wpAny_execs_nil ⟨_, σ₁, .next, r₁, hq⟩
    | brk => exact ⟨_, σ₁, .brk, r₁, hq⟩
    | cont => exact ⟨_, σ₁, .cont, r₁, hq⟩
    | ret hv => exact ⟨_, σ₁, .ret hv, r₁, hq⟩
  · obtain ⟨σ₁, ⟨e, t, tok, h0, fs, h, tk, rfl, ok, rfl, rh0, hfl, htup, htn, hu, hfs, hcs, hns⟩, hqe⟩ := hx
    have hL : C.env.locals ∈ fs := by
      have : (hideAll h0 fs).get? C.env.locals = none := by
        obtain ⟨_, ⟨L', o, hf, hn', _⟩, _⟩ := hfl.2.2.1
        rw [hfr] at hf; cases hf; exact hn'
      obtain ⟨m, ⟨o, es, ep, ho, _⟩, _⟩ := rh0.ns
      cases Classical.em (C.env.locals ∈ fs) with
      | inl h => exact h
      | inr h => rw [hideAll_get _ ho h] at this; cases this
    refine wpAny_looks_onW hst hfr hfl fun h₄ hheld₄ hu₄ => ?_
    refine wpAny_landsW (s := { C.s0 with heap := h₄, toks := tk }) hheld₄ fun h₅ hfl₅ hu₅ => ?_
    have stay : ∀ {h' : Heap}, (hideAll h0 fs).StaysIn h' → h0.UpToSlots h' → RelH C σ₁ h' := fun hB hu' => rh0.flown fs (fun b o ho hm => hB b o (hideAll_get _ ho hm)) hu' (fun b hb => (hfs b hb).1) hcs hns
    have r₅ : Rel C σ₁ { C.s0 with heap := h₅, toks := tk } := ⟨ok, h₅, tk, rfl, stay hfl₅.1 ((hu.trans hu₄).trans hu₅)⟩
    obtain ⟨ob, hob, hobc⟩ := hfl₅.there
    refine wpAny_handleBy_builtin_as (X := "RuntimeError") (T := "RuntimeError") (b := true) (by rw [isSubtype_type]; kernel_rfl) (by rw [isSubtype_type]; kernel_rfl) (by rw [isSubtype_type]; kernel_rfl) ?_
    refine wpAny_Name (ok.ok.glob _ _ hv C.env _ _ _ _ ok.kind (ok.glhas _ hg) ok.globals ok.builtins (fun b o e => r₅.heap.keep b o (ok.base b o e)) ⟨rfl, ⟨ob, hob, hobc⟩, ?_⟩) (by decide)
    rw [if_pos rfl]
    refine lands_againW (s := { C.s0 with heap := h₅, toks := tk }) hfl₅ fun h₆ hfl₆ hu₆ => ?_
    have hu06 := ((hu.trans hu₄).trans hu₅).trans hu₆
    have rh₆ := stay hfl₆.1 hu06
    obtain ⟨oe, vs, hoe, hoec, hoed, hoe0⟩ := hfl₆.first
    have htup₆ := ((htup.of_slots hu₄).of_slots hu₅).of_slots hu₆
    obtain ⟨ot, nt, hot, hotc, hotd⟩ := id htup₆
    have hfsd : ∀ b ∈ fs, ∃ o, h₆.get? b = some o ∧ ∃ es ep, o.data = .dict es ep := fun b hb => by
      obtain ⟨_, o, ho, es, ep, hd⟩ := hfs b hb
      obtain ⟨sl, hs⟩ := hu06 b o ho fun vs q => by rw [hd] at q; cases q
      exact ⟨_, hs, es, ep, hd⟩
    have hefs : e ∉ fs := fun hm => by
      obtain ⟨o, ho, es, ep, hd⟩ := hfsd e hm
      rw [hoe] at ho; cases ho; rw [hoed] at hd; cases hd
    have htfs : t ∉ fs := fun hm => by
      obtain ⟨o, ho, es, ep, hd⟩ := hfsd t hm
      rw [hot] at ho; cases ho; rw [hotd] at hd; cases hd
    have hnone : ∀ b, (hideAll h0 fs).get? b = none → b ∉ fs → h0.get? b = none := fun b hb hm => by
      cases q : h0.get? b with
      | none => rfl
      | some o => rw [hideAll_get _ q hm] at hb; cases hb
    obtain ⟨e1, e2, e3, e4⟩ := rh0.fresh (hnone e hfl₆.2.1 hefs)
    obtain ⟨t1, t2, t3, t4⟩ := rh0.fresh (hnone t htn htfs)
    have het : e ≠ t := by rintro rfl; rw [hoe] at hot; cases hot; rw [hoed] at hotd; cases hotd
    have rh₇ : RelH C ((σ₁.pt e (.exc t)).pt t (.tup [.str msg])) h₆ :=
      (rh₆.sees hoe (p := .exc t) ⟨hoec, vs, hoed, hoe0⟩ e1 e2 e3).sees hot (p := .tup [.str msg]) ⟨hotc, _, nt, hotd, .cons (.str _ _) .nil⟩ t1 t2 t3
    have r₇ : Rel C ((σ₁.pt e (.exc t)).pt t (.tup [.str msg])) { C.s0 with heap := h₆, toks := tk } := ⟨ok, h₆, tk, rfl, rh₇⟩
    refine wpAG (AU_store (C := C.marked e) (E := fun _ _ => False) (Q := fun _ σ'' => σ'' = (((σ₁.pt e (.exc t)).pt t (.tup [.str msg])).st n (.ref e))) hw (.ref e) rfl _ r₇.mark) (fun _ s₈ _ σ₈ _ r₈ e₈ => ?_) fun _ _ q => q.elim
    subst e₈
    refine wpAG (hsuite σ₁ e t (fun _ _ => False) hqe e4 t4 het s₈ r₈) (fun f s₉ pf σ₉ hf r₉ hq => ?_) fun _ _ q => q.elim
    refine wpAG (AU_nameGoes (C := C) (E := E) (Q := fun _ σ' => Q pf σ') hn hq s₉ (r₉.unmark ok)) (fun _ s' _ σ' _ r' hq' => ⟨pf, σ', hf, r', hq'⟩) fun _ _ q => q

/-- str(error) -/
theorem A_strExc {C : Cx} {σ : AS} {E : Value → Shared → Prop} {e t : Addr} {msg : Str} {Q : PV → AS → Prop} (he : σ.hp e = some (.exc t)) (ht : σ.hp t = some (.tup [.str msg])) (h : Q (.str msg) σ) : ACall C (.type "str") [.ref e] Q E σ := fun us hus s r => by
  cases hus with
  | cons h1 h2 =>
    cases h1; cases h2
    obtain ⟨oe, ho, hc, vs, hd, h0⟩ := r.heap.obj _ _ he
    obtain ⟨ot, hto, htc, ws, n, htd, hv⟩ := r.heap.obj _ _ ht
    cases hv with
    | cons v1 v2 =>
      cases v1; cases v2
      have := r.1.units
      exact P.str_of_exc_one F.excStr_RuntimeError (by omega) ⟨oe, vs, ho, hc, hd, h0⟩ ⟨ot, n, hto, htc, htd⟩ ⟨_, σ, .str _ _, r, h⟩
end Mine

namespace Mine

/-! ## the merge, plainly -/
abbrev Rows := List (List Int)
def strip (c : Int) (rows : Rows) : Rows := rows.map fun r => if r.head? = some c then r.tail else r
/-- c is the head of some row that is in some tail -/
def Held (rows : Rows) (c : Int) : Prop := ∃ r ∈ rows, c ∈ r.tail
def Pick (rows : Rows) (c : Int) : Prop := ∃ pre row post, rows = pre ++ (c :: row) :: post ∧ ¬ Held rows c ∧ ∀ r ∈ pre, ∀ d, r.head? = some d → Held rows d
inductive C3 : Rows → List Int → Rows → Bool → Prop
  | done {rows} : (∀ r ∈ rows, r = []) → C3 rows [] rows true
  | stuck {rows} : (∃ r ∈ rows, r ≠ []) → (∀ r ∈ rows, ∀ d, r.head? = some d → Held rows d) → C3 rows [] rows false
  | step {rows c o rest b} : Pick rows c → C3 (strip c rows) o rest b → C3 rows (c :: o) rest b

def total (rows : Rows) : Nat := (rows.map List.length).sum
theorem total_cons (r : List Int) (rows : Rows) : total (r :: rows) = r.length + total rows := by simp [total]

theorem total_strip_le (c : Int) : ∀ rows : Rows, total (strip c rows) ≤ total rows
  | [] => by simp [strip, total]
  | r :: rows => by
    have := total_strip_le c rows
    simp only [strip, List.map_cons, total_cons] at this ⊢
    split
    · have := List.length_tail (l := r); omega
    · omega

theorem total_strip_lt {c : Int} : ∀ {rows : Rows}, (∃ r ∈ rows, r.head? = some c) → total (strip c rows) < total rows
  | [], h => by obtain ⟨r, hr, _⟩ := h; cases hr
  | r :: rows, h => by
    simp only [strip, List.map_cons, total_cons]
    have hle := total_strip_le c rows
    simp only [strip] at hle
    by_cases hc : r.head? = some c
    · rw [if_pos hc]
      cases r with
      | nil => cases hc
      | cons x xs => simp only [List.tail_cons, List.length_cons]; omega
    · rw [if_neg hc]
      obtain ⟨r', hr', hh⟩ := h
      cases hr' with
      | head => exact absurd hh hc
      | tail _ hr' =>
        have := total_strip_lt (rows := rows) ⟨r', hr', hh⟩
        simp only [strip] at this
        omega

theorem Pick.head {rows : Rows} {c : Int} (h : Pick rows c) : ∃ r ∈ rows, r.head? = some c := by
  obtain ⟨pre, row, post, rfl, _⟩ := h
  exact ⟨c :: row, by simp, rfl⟩

/-! ## rows in the heap -/
/-- the lists at as have the contents rs -/
def At (hp : Addr → Option PO) (as : List Addr) (rs : Rows) : Prop := as.length = rs.length ∧ ∀ (i : Nat) (a : Addr) (r : List Int), as[i]? = some a → rs[i]? = some r → hp a = some (.list (nums r))

def refs (as : List Addr) : List PV := as.map PV.ref
@[simp] theorem refs_length (as : List Addr) : (refs as).length = as.length := by simp [refs]
theorem refs_get {as : List Addr} {i : Nat} {v : PV} (h : (refs as)[i]? = some v) : ∃ a, as[i]? = some a ∧ v = .ref a := by
  unfold refs at h
  rw [List.getElem?_map] at h
  cases e : as[i]? with
  | none => rw [e] at h; cases h
  | some a => rw [e] at h; exact ⟨a, rfl, by cases h; rfl⟩

theorem At.get {hp : Addr → Option PO} {as : List Addr} {rs : Rows} (h : At hp as rs) {i : Nat} {a : Addr} (ha : as[i]? = some a) : ∃ r, rs[i]? = some r ∧ hp a = some (.list (nums r)) := by
  have hi : i < as.length := (List.getElem?_eq_some_iff.mp ha).1
  have hi' : i < rs.length := h.1 ▸ hi
  exact ⟨rs[i], by simp [hi'], h.2 i a _ ha (by simp [hi'])⟩
theorem At.ext {hp hp' : Addr → Option PO} {as : List Addr} {rs : Rows} (h : At hp as rs) (e : Ext hp hp') : At hp' as rs := ⟨h.1, fun i a r ha hr => e _ _ (h.2 i a r ha hr)⟩
theorem At.nil {hp : Addr → Option PO} : At hp [] [] := ⟨rfl, fun i a r ha => by simp at ha⟩
theorem At.cons {hp : Addr → Option PO} {a : Addr} {as : List Addr} {r : List Int} {rs : Rows} (h : At hp as rs) (ha : hp a = some (.list (nums r))) : At hp (a :: as) (r :: rs) :=
  ⟨by simp [h.1], fun i b q hb hq => by
    cases i with
    | zero => simp at hb hq; subst hb; subst hq; exact ha
    | succ i => simp at hb hq; exact h.2 i b q hb hq⟩
theorem At.tail {hp : Addr → Option PO} {a : Addr} {as : List Addr} {r : List Int} {rs : Rows} (h : At hp (a :: as) (r :: rs)) : At hp as rs :=
  ⟨by simpa using h.1, fun i b q hb hq => h.2 (i + 1) b q (by simpa using hb) (by simpa using hq)⟩
theorem At.snoc {hp : Addr → Option PO} {a : Addr} {as : List Addr} {r : List Int} {rs : Rows} (h : At hp as rs) (ha : hp a = some (.list (nums r))) : At hp (as ++ [a]) (rs ++ [r]) := by
  refine ⟨by simp [h.1], fun i b q hb hq => ?_⟩
  by_cases hi : i < as.length
  · rw [List.getElem?_append_left hi] at hb
    rw [List.getElem?_append_left (h.1 ▸ hi)] at hq
    exact h.2 i b q hb hq
  · have hi' : as.length ≤ i := Nat.not_lt.mp hi
    rw [List.getElem?_append_right hi'] at hb
    rw [List.getElem?_append_right (h.1 ▸ hi')] at hq
    have : i - as.length = 0 := by
      have := (List.getElem?_eq_some_iff.mp hb).1
      simp at this; omega
    rw [this] at hb; rw [← h.1, this] at hq
    simp at hb hq; subst hb; subst hq; exact ha
theorem At.mem {hp : Addr → Option PO} {as : List Addr} {rs : Rows} (h : At hp as rs) {a : Addr} (ha : a ∈ as) : ∃ r ∈ rs, hp a = some (.list (nums r)) := by
  obtain ⟨i, hi⟩ := List.mem_iff_getElem?.mp ha
  obtain ⟨r, hr, hh⟩ := h.get hi
  exact ⟨r, List.mem_of_getElem? hr, hh⟩

def live (cur : Addr → List Int) (a : Addr) : Bool := !(cur a).isEmpty
def stripF (c : Int) (cur : Addr → List Int) : Addr → List Int := fun a => if (cur a).head? = some c then (cur a).tail else cur a
theorem strip_map (c : Int) (as : List Addr) (cur : Addr → List Int) : strip c (as.map cur) = as.map (stripF c cur) := by simp [strip, stripF, List.map_map, Function.comp_def]

def AtF (hp : Addr → Option PO) (as : List Addr) (cur : Addr → List Int) : Prop := ∀ a ∈ as, hp a = some (.list (nums (cur a)))
/-- what stands outside as stays -/
def Fx (as : List Addr) (hp hp' : Addr → Option PO) : Prop := ∀ a o, hp a = some o → a ∉ as → hp' a = some o
theorem Fx.refl (as : List Addr) (hp : Addr → Option PO) : Fx as hp hp := fun _ _ e _ => e
theorem Fx.trans {as : List Addr} {f g k : Addr → Option PO} (h : Fx as f g) (h' : Fx as g k) : Fx as f k := fun a o e n => h' a o (h a o e n) n
theorem Fx.ext {as : List Addr} {f g k : Addr → Option PO} (h : Fx as f g) (h' : Ext g k) : Fx as f k := fun a o e n => h' a o (h a o e n)
theorem Fx.upd {as : List Addr} {f g : Addr → Option PO} (h : Fx as f g) {a : Addr} {o : PO} (ha : a ∈ as ∨ f a = none) : Fx as f (Mine.upd g a o) := fun b p e n => by
  have hne : b ≠ a := by
    rintro rfl
    rcases ha with ha | ha
    · exact n ha
    · rw [ha] at e; cases e
  exact upd_skip hne (h b p e n)
theorem AtF.ext {hp hp' : Addr → Option PO} {as : List Addr} {cur : Addr → List Int} (h : AtF hp as cur) (e : Ext hp hp') : AtF hp' as cur := fun a ha => e _ _ (h a ha)

theorem held_live {as : List Addr} {cur : Addr → List Int} {c : Int} : Held (as.map cur) c ↔ ∃ a ∈ as.filter (live cur), c ∈ (cur a).tail := by
  constructor
  · rintro ⟨r, hr, hc⟩
    obtain ⟨a, ha, rfl⟩ := List.mem_map.mp hr
    refine ⟨a, List.mem_filter.mpr ⟨ha, ?_⟩, hc⟩
    unfold live
    cases e : cur a with
    | nil => rw [e] at hc; cases hc
    | cons x xs => rfl
  · rintro ⟨a, ha, hc⟩
    exact ⟨cur a, List.mem_map.mpr ⟨a, (List.mem_filter.mp ha).1, rfl⟩, hc⟩

/-- a list parts at i -/
theorem split_at {α : Type} {l : List α} {i : Nat} {a : α} (h : l[i]? = some a) : l = l.take i ++ a :: l.drop (i + 1) := by
  obtain ⟨hi, he⟩ := List.getElem?_eq_some_iff.mp h
  have h1 : l.drop i = a :: l.drop (i + 1) := by rw [List.drop_eq_getElem_cons hi, he]
  rw [← h1, List.take_append_drop]
theorem take_succ_at {α : Type} {l : List α} {i : Nat} {a : α} (h : l[i]? = some a) : l.take (i + 1) = l.take i ++ [a] := by
  rw [List.take_succ, h]; rfl

theorem pick_live {as : List Addr} {cur : Addr → List Int} {c : Int} {i : Nat} {a : Addr} (ha : (as.filter (live cur))[i]? = some a) (hc : (cur a).head? = some c) (hn : ∀ b ∈ as.filter (live cur), c ∉ (cur b).tail)
    (hp : ∀ b ∈ (as.filter (live cur)).take i, ∀ d, (cur b).head? = some d → Held (as.map cur) d) : Pick (as.map cur) c := by
  obtain ⟨pre, post', e, hpre, hpost⟩ := List.filter_eq_append_iff.mp (split_at ha)
  obtain ⟨pre2, post, e2, hpre2, hpa, hpost2⟩ := List.filter_eq_cons_iff.mp hpost
  have has : as = (pre ++ pre2) ++ a :: post := by rw [e, e2]; simp
  refine ⟨(pre ++ pre2).map cur, (cur a).tail, post.map cur, ?_, ?_, ?_⟩
  · have : cur a = c :: (cur a).tail := by
      cases h : cur a with
      | nil => rw [h] at hc; cases hc
      | cons x xs => rw [h] at hc; cases hc; rfl
    rw [← this]
    conv => lhs; rw [has]
    simp
  · intro hh
    obtain ⟨b, hb, hbc⟩ := held_live.mp hh
    exact hn b hb hbc
  · intro r hr d hd
    obtain ⟨b, hb, rfl⟩ := List.mem_map.mp hr
    rcases List.mem_append.mp hb with hb | hb
    · refine hp b ?_ d hd
      rw [← hpre]
      refine List.mem_filter.mpr ⟨hb, ?_⟩
      unfold live
      cases h : cur b with
      | nil => rw [h] at hd; cases hd
      | cons x xs => rfl
    · have := hpre2 b hb
      unfold live at this
      cases h : cur b with
      | nil => rw [h] at hd; cases hd
      | cons x xs => rw [h] at this; exact absurd rfl this

theorem filter_filter_live {as : List Addr} {cur cur' : Addr → List Int} (h : ∀ a, live cur' a = true → live cur a = true) : (as.filter (live cur)).filter (live cur') = as.filter (live cur') := by
  rw [List.filter_filter]
  congr 1
  funext a
  cases e : live cur' a with
  | false => rfl
  | true => rw [h a e]; rfl
theorem live_strip {c : Int} {cur : Addr → List Int} (a : Addr) (h : live (stripF c cur) a = true) : live cur a = true := by
  unfold live stripF at *
  cases e : cur a with
  | nil => rw [e] at h; simp at h
  | cons x xs => rfl

/-- the rows in the midst of the stripping -/
def stripU (c : Int) (cur : Addr → List Int) (l : List Addr) : Addr → List Int := fun a => if a ∈ l then stripF c cur a else cur a
theorem stripU_nil (c : Int) (cur : Addr → List Int) : stripU c cur [] = cur := by funext a; simp [stripU]
end Mine

namespace Mine

/-- a comprehension that takes each item for itself; the heap only grows -/
theorem comp_pure {C : Cx} {sc : Scope} {x : Str} {ifs : List Expr} {elt : Expr} {Q : PV → AS → Prop} {p : PV} {σ : AS} {vs : List PV} {Ok : AS → Prop}
    (it : Iterable C p Ok (· = vs)) (ok : ∀ hp, Ext σ.hp hp → Ok ⟨σ.loc, hp⟩) (hsz : vs.length ≤ sizeLine) (f : PV → Option PV)
    (turn : ∀ v ∈ vs, ∀ hp C' E', Ext σ.hp hp → CompCx C sc C' →
      ATests C' ifs (fun b σ' => if b = true then AV C' (eval elt C'.env) (fun w σ'' => Ext hp σ''.hp ∧ f v = some w) E' σ' else Ext hp σ'.hp ∧ f v = none) E' ⟨updS (locC sc σ.loc) x v, hp⟩)
    (last : ∀ hp D, Ext σ.hp hp → hp D = none → Q (.ref D) ⟨σ.loc, upd hp D (.list (vs.filterMap f))⟩) : CompGives C sc x ifs elt Q p σ := by
  refine ⟨Ok, _, it, ok _ (Ext.refl _), fun vs' e => ?_⟩
  subst e
  refine ⟨hsz, fun i acc hp => Ext σ.hp hp ∧ acc = (vs'.take i).filterMap f, ⟨Ext.refl _, by simp⟩, fun i acc hp h => ok hp h.1, ?_, ?_⟩
  · rintro i acc hp v C' E' hv ⟨h1, h2⟩ hC
    have hstep : (vs'.take (i + 1)).filterMap f = acc ++ (f v).toList := by
      rw [take_succ_at hv, List.filterMap_append, h2]
      cases e : f v <;> simp [e]
    have ht := turn v (List.mem_of_getElem? hv) hp C' E' h1 hC
    have key : ∀ (ifs : List Expr) (Q₁ Q₂ : Bool → AS → Prop) (σ : AS), (∀ b σ, Q₁ b σ → Q₂ b σ) → ATests C' ifs Q₁ E' σ → ATests C' ifs Q₂ E' σ := by
      intro ifs Q₁ Q₂ σ hq h
      match ifs, h with
      | [], h => exact hq _ _ h
      | [c], h => exact h.mono hq
    refine key ifs _ _ _ (fun b σ' hb => ?_) ht
    cases b with
    | true =>
      rw [if_pos rfl] at hb ⊢
      refine hb.mono fun w σ'' ⟨h3, h4⟩ => ⟨h1.trans h3, ?_⟩
      rw [hstep, h4]; rfl
    | false =>
      rw [if_neg (by decide)] at hb ⊢
      refine ⟨h1.trans hb.1, ?_⟩
      rw [hstep, hb.2]; simp
  · rintro acc hp D ⟨h1, h2⟩ hD
    rw [List.take_length] at h2
    subst h2
    exact last hp D h1 hD

/-- a comprehension whose items are new objects -/
theorem comp_new {C : Cx} {sc : Scope} {x : Str} {elt : Expr} {Q : PV → AS → Prop} {p : PV} {σ : AS} {vs : List PV} {Ok : AS → Prop}
    (it : Iterable C p Ok (· = vs)) (ok : ∀ hp, Ext σ.hp hp → Ok ⟨σ.loc, hp⟩) (hsz : vs.length ≤ sizeLine) (f : PV → PO)
    (turn : ∀ v ∈ vs, ∀ hp C' E', Ext σ.hp hp → CompCx C sc C' → AV C' (eval elt C'.env) (fun w σ'' => ∃ d, w = .ref d ∧ hp d = none ∧ Ext hp σ''.hp ∧ σ''.hp d = some (f v)) E' ⟨updS (locC sc σ.loc) x v, hp⟩)
    (last : ∀ hp D ds, Ext σ.hp hp → hp D = none → ds.length = vs.length → ds.Nodup → (∀ d ∈ ds, σ.hp d = none) → (∀ (i : Nat) d v, ds[i]? = some d → vs[i]? = some v → hp d = some (f v)) → Q (.ref D) ⟨σ.loc, upd hp D (.list (refs ds))⟩) :
    CompGives C sc x [] elt Q p σ := by
  refine ⟨Ok, _, it, ok _ (Ext.refl _), fun vs' e => ?_⟩
  subst e
  refine ⟨hsz, fun i acc hp => Ext σ.hp hp ∧ i ≤ vs'.length ∧ ∃ ds, acc = refs ds ∧ ds.length = i ∧ ds.Nodup ∧ (∀ d ∈ ds, σ.hp d = none) ∧ ∀ (j : Nat) d v, ds[j]? = some d → vs'[j]? = some v → hp d = some (f v),
    ⟨Ext.refl _, Nat.zero_le _, [], rfl, rfl, .nil, (by intro d hd; cases hd), (by intro j d v hd; simp at hd)⟩, fun i acc hp h => ok hp h.1, ?_, ?_⟩
  · rintro i acc hp v C' E' hv ⟨h1, hi, ds, rfl, hlen, hnd, hnone, hall⟩ hC
    show AV C' (eval elt C'.env) _ E' _
    refine (turn v (List.mem_of_getElem? hv) hp C' E' h1 hC).mono ?_
    rintro w σ'' ⟨d, rfl, hd, hext, hobj⟩
    have hlt := (List.getElem?_eq_some_iff.mp hv).1
    have hdn : ∀ e ∈ ds, hp e ≠ none := by
      intro e he hne
      obtain ⟨j, hj⟩ := List.mem_iff_getElem?.mp he
      have hjl := (List.getElem?_eq_some_iff.mp hj).1
      obtain ⟨u, hu⟩ : ∃ u, vs'[j]? = some u := ⟨vs'[j]'(by omega), List.getElem?_eq_getElem (by omega)⟩
      rw [hall j e u hj hu] at hne; cases hne
    refine ⟨h1.trans hext, hlt, ds ++ [d], by simp [refs], by simp [hlen], ?_, ?_, ?_⟩
    · rw [List.nodup_append]
      refine ⟨hnd, by simp, fun a ha b hb => ?_⟩
      simp at hb; subst hb
      rintro rfl
      exact hdn a ha hd
    · intro e he
      rcases List.mem_append.mp he with he | he
      · exact hnone e he
      · simp at he; subst he
        cases e' : σ.hp e with
        | none => rfl
        | some o => rw [h1 e o e'] at hd; cases hd
    · intro j e u he hu
      by_cases hj : j < ds.length
      · rw [List.getElem?_append_left hj] at he
        exact hext _ _ (hall j e u he hu)
      · have hj' : ds.length ≤ j := Nat.not_lt.mp hj
        rw [List.getElem?_append_right hj'] at he
        have hje : j = i := by have := (List.getElem?_eq_some_iff.mp he).1; simp at this; omega
        subst hje
        rw [hlen] at he
        simp at he; subst he
        rw [hv] at hu; cases hu
        exact hobj
  · rintro acc hp D ⟨h1, _, ds, rfl, hlen, hnd, hnone, hall⟩ hD
    exact last hp D ds h1 hD hlen hnd hnone hall

theorem mem_of_lookup_eq {l : List (Str × NameKind)} {x : Str} {k : NameKind} (h : l.lookup x = some k) : (x, k) ∈ l := by
  induction l with
  | nil => cases h
  | cons p l ih =>
    obtain ⟨y, q⟩ := p
    rw [List.lookup_cons] at h
    split at h
    · next hx => cases h; rw [eq_of_beq hx]; exact .head _
    · exact .tail _ (ih h)
theorem In.comp {G : Gl} {f : Fn} {C : Cx} {sc : Scope} {x : Str} (h : In G f C) (h1 : sc.kind = .function := by rfl) (h2 : (sc.names.map (·.1)).Nodup := by decide) (h3 : wrOf sc.names x = true := by rfl)
    (h4 : (sc.names.all fun p => !(p.2 == .free) || cvOf f.scope.names p.1) = true := by rfl) : CompOk C sc x :=
  ⟨h1, h2, h3, fun y hy => by
    have := List.all_eq_true.mp h4 _ (mem_of_lookup_eq hy)
    rw [h.cv]
    simpa using this⟩
theorem CompCx.comp {C C' : Cx} {sc' sc : Scope} {x : Str} (h : CompCx C sc' C') (h1 : sc.kind = .function := by rfl) (h2 : (sc.names.map (·.1)).Nodup := by decide) (h3 : wrOf sc.names x = true := by rfl)
    (h4 : (sc.names.all fun p => !(p.2 == .free) || cvfOf sc'.names p.1) = true := by rfl) : CompOk C' sc x :=
  ⟨h1, h2, h3, fun y hy => by
    have := List.all_eq_true.mp h4 _ (mem_of_lookup_eq hy)
    rw [h.cv]
    simpa using this⟩
theorem len_le_total {as : List Addr} {cur : Addr → List Int} {a : Addr} (h : a ∈ as) : (cur a).length ≤ total (as.map cur) := by
  induction as with
  | nil => cases h
  | cons b bs ih =>
    rw [List.map_cons, total_cons]
    cases h with
    | head => omega
    | tail _ h => have := ih h; omega
def liveRef (cur : Addr → List Int) : PV → Option PV
  | .ref a => if live cur a then some (.ref a) else none
  | _ => none
theorem filterMap_live (as : List Addr) (cur : Addr → List Int) : (refs as).filterMap (liveRef cur) = refs (as.filter (live cur)) := by
  induction as with
  | nil => rfl
  | cons a as ih =>
    simp only [refs, List.map_cons, List.filterMap_cons, List.filter_cons] at ih ⊢
    cases e : live cur a <;> simp [ih, liveRef, e]

end Mine

namespace Mine

/-- the pairs of neighbours in a row -/
def prs (r : List Int) : List (Int × Int) := r.zip r.tail
def allPrs (rows : Rows) : List (Int × Int) := rows.flatMap prs
theorem prs_get {r : List Int} {k : Nat} {x y : Int} (hx : r[k]? = some x) (hy : r[k + 1]? = some y) : (prs r)[k]? = some (x, y) := by
  unfold prs
  rw [List.getElem?_zip_eq_some]
  exact ⟨hx, by rw [List.getElem?_tail]; exact hy⟩
theorem prs_length (r : List Int) : (prs r).length = r.length - 1 := by unfold prs; rw [List.length_zip, List.length_tail]; omega

/-- who stands ahead of whom, so far -/
def setOf (ps : List (Int × Int)) (i : Nat) : Int → Bool := fun j => decide ((j, (i : Int)) ∈ ps)

def War (base : Nat → Int → Bool) : Nat → Nat → Int → Bool
  | 0, i => base i
  | m + 1, i => fun j => War base m i j || (War base m i m && War base m m j)

/-- the sets at ds -/
def SetsAt (hp : Addr → Option PO) (ds : List Addr) (S : Nat → Int → Bool) : Prop := ∀ (i : Nat) (d : Addr), ds[i]? = some d → hp d = some (.set (S i))
theorem SetsAt.ext {hp hp' : Addr → Option PO} {ds : List Addr} {S : Nat → Int → Bool} (h : SetsAt hp ds S) (e : Ext hp hp') : SetsAt hp' ds S := fun i d hd => e _ _ (h i d hd)

theorem nodup_get {α : Type} {l : List α} (h : l.Nodup) {i j : Nat} {a : α} (hi : l[i]? = some a) (hj : l[j]? = some a) : i = j := by
  obtain ⟨h1, h2⟩ := List.getElem?_eq_some_iff.mp hi
  obtain ⟨h3, h4⟩ := List.getElem?_eq_some_iff.mp hj
  rcases Nat.lt_trichotomy i j with hlt | heq | hgt
  · exact absurd (h2.trans h4.symm) (List.pairwise_iff_getElem.mp h i j h1 h3 hlt)
  · exact heq
  · exact absurd (h4.trans h2.symm) (List.pairwise_iff_getElem.mp h j i h3 h1 hgt)

/-- one set grows by one -/
theorem SetsAt.add {hp : Addr → Option PO} {ds : List Addr} {ps : List (Int × Int)} (h : SetsAt hp ds (setOf ps)) (nd : ds.Nodup) {i : Nat} {d : Addr} (hd : ds[i]? = some d) (k : Nat) :
    SetsAt (upd hp d (.set fun j => setOf ps i j || decide (j = k))) ds (setOf (ps ++ [((k : Int), (i : Int))])) := by
  intro i' d' hd'
  by_cases hdd : d' = d
  · subst hdd
    obtain rfl := nodup_get nd hd hd'
    rw [upd_here]
    congr 2
    funext j
    unfold setOf
    rw [Bool.eq_iff_iff]
    simp
  · rw [upd_skip hdd (h i' d' hd')]
    congr 2
    funext j
    have hii : i' ≠ i := by rintro rfl; rw [hd] at hd'; cases hd'; exact hdd rfl
    unfold setOf
    rw [Bool.eq_iff_iff]
    simp
    intro _ h; omega

theorem Ext.updF {f g : Addr → Option PO} (h : Ext f g) {d : Addr} {o : PO} (hd : f d = none) : Ext f (Mine.upd g d o) := fun a p e => by
  have hne : a ≠ d := by rintro rfl; rw [hd] at e; cases e
  exact upd_skip hne (h a p e)
theorem allPrs_take {as : List Addr} {cur : Addr → List Int} {n : Nat} {a : Addr} (h : as[n]? = some a) : allPrs ((as.take (n + 1)).map cur) = allPrs ((as.take n).map cur) ++ prs (cur a) := by
  rw [take_succ_at h]; simp [allPrs]

def WarU (base : Nat → Int → Bool) (m o : Nat) : Nat → Int → Bool := fun i => if i < o then War base (m + 1) i else War base m i
theorem WarU_zero (base : Nat → Int → Bool) (m : Nat) : WarU base m 0 = War base m := by funext i; simp [WarU]
theorem WarU_self (base : Nat → Int → Bool) (m o : Nat) : WarU base m o o = War base m o := by simp [WarU]
theorem WarU_mid (base : Nat → Int → Bool) (m o : Nat) : WarU base m o m = War base m m := by
  unfold WarU
  split
  · funext j
    show (War base m m j || (War base m m m && War base m m j)) = War base m m j
    cases War base m m j <;> simp
  · rfl
theorem WarU_yes {base : Nat → Int → Bool} {m o : Nat} (h : War base m o m = true) : (fun j => War base m o j || War base m m j) = War base (m + 1) o := by
  funext j
  show _ = (War base m o j || (War base m o m && War base m m j))
  rw [h]; simp
theorem WarU_no {base : Nat → Int → Bool} {m o : Nat} (h : War base m o m = false) : War base (m + 1) o = War base m o := by
  funext j
  show (War base m o j || (War base m o m && War base m m j)) = _
  rw [h]; simp
theorem WarU_next (base : Nat → Int → Bool) (m o i : Nat) (h : i ≠ o) : WarU base m (o + 1) i = WarU base m o i := by
  unfold WarU
  by_cases h1 : i < o
  · rw [if_pos h1, if_pos (by omega)]
  · rw [if_neg h1, if_neg (by omega)]
theorem SetsAt.warEnd {hp : Addr → Option PO} {ds : List Addr} {base : Nat → Int → Bool} {m : Nat} (h : SetsAt hp ds (WarU base m ds.length)) : SetsAt hp ds (War base (m + 1)) := fun i d hd => by
  have hi := (List.getElem?_eq_some_iff.mp hd).1
  have := h i d hd
  unfold WarU at this
  rwa [if_pos hi] at this

/-- one set is put in place of another -/
theorem SetsAt.put {hp : Addr → Option PO} {ds : List Addr} {S S' : Nat → Int → Bool} (h : SetsAt hp ds S) {i : Nat} {d : Addr} (hd : hp d = some (.set (S' i))) (hS : ∀ j, j ≠ i → S' j = S j) : SetsAt hp (ds.set i d) S' := by
  intro j e he
  by_cases hij : i = j
  · subst hij
    by_cases hl : i < ds.length
    · rw [List.getElem?_set_self hl] at he; cases he; exact hd
    · rw [List.getElem?_eq_none (by simp; omega)] at he; cases he
  · rw [List.getElem?_set_ne hij] at he
    rw [hS j (Ne.symm hij)]; exact h j e he
theorem SetsAt.skip {hp : Addr → Option PO} {ds : List Addr} {S : Nat → Int → Bool} (h : SetsAt hp ds S) {D : Addr} {vs : List PV} {o : PO} (hD : hp D = some (.list vs)) : SetsAt (upd hp D o) ds S := fun i d hd => by
  have h1 := h i d hd
  have hne : d ≠ D := by rintro rfl; rw [hD] at h1; cases h1
  exact upd_skip hne h1
theorem refs_set (ds : List Addr) (i : Nat) (d : Addr) : (refs ds).set i (.ref d) = refs (ds.set i d) := by unfold refs; rw [List.map_set]

end Mine

namespace Mine

def topGl (prog : Program) (p : Program) (w : World) (mg mb : Str → Option Value) (h : Heap) : Gl :=
  { prog := prog, w := w, base := h, gt := fun x => match mg x with | some v => some v | none => mb x,
    isFn := fun f => ∃ d ∈ recsOf p, mg d.name = some (.ref f.addr) ∧ f = ⟨f.addr, d.name, d.params, d.body, d.scope⟩ }

theorem topGl_ok {prog p : Program} {w : World} {loose : List Str} {mean : ExcName → Option Value} {mg mb : Str → Option Value} {h : Heap} (T : Top p loose mean mg mb h) : GlOK (topGl prog p w mg mb h) where
  glob := fun x v hv env A s Q E hk hx hg hb hkeep hq => by
    unfold loadName
    simp only [Env.blockKind, hk, hx, ScopeKind.isAnnotationScope, Bool.false_and, Bool.false_eq_true, if_false]
    have g1 : s.heap.Ns env.globals mg := by rw [hg]; exact T.g.keeps hkeep
    have g2 : s.heap.Ns env.builtins mb := by rw [hb]; exact T.b.keeps hkeep
    cases e : mg x with
    | some u =>
      have : (match mg x with | some v => some v | none => mb x) = some v := hv
      rw [e] at this
      cases this
      exact Calls.loadGlobal_global g1 e hq
    | none =>
      have : (match mg x with | some v => some v | none => mb x) = some v := hv
      rw [e] at this
      exact Calls.loadGlobal_builtin g1 e g2 this hq
  fns := fun f ⟨d, hd, hm, hf⟩ => by
    obtain ⟨a, o, pm, code, doc, h1, h2, h3, h4⟩ := T.fn d hd
    rw [hm] at h1
    cases h1
    obtain ⟨c, oc, vs, t, hcd, hoc, hdc, _⟩ := id h4
    rw [hf]
    exact ⟨o, pm, code, doc, c, oc, vs, h2, h3, hcd, hoc, hdc, h4⟩
  nolimit := T.nolimit

/-- a slice of the script: a list that stands in the base -/
theorem AV_sliceB {C : Cx} {σ : AS} {E : Value → Shared → Prop} {x : Str} {up : Int} {px pp pq pos : Pos} {k : Nat} {l : Addr} {ws : List Value} {xs : List Int} {Q : PV → AS → Prop}
    (hx : σ.loc x = some (.ref l)) (hl : C.G.base.IsList l ws.toArray) (hI : VRs (nums xs) ws) (h0 : 0 ≤ up) (hsz : xs.length ≤ sizeLine) (h : ∀ d, σ.hp d = none → Q (.ref d) (σ.pt d (.list (nums (xs.take up.toNat)))))
    (hd : (x == ("__debug__" : Str)) = false := by decide) (hn : (x == ("__classdict__" : Str)) = false := by decide) :
    AV C (eval (.Subscript (.Name x px) (.Slice none (some (.Constant (.int up) k pq)) none pp) pos) C.env) Q E σ := by
  intro s r
  refine Subscript_ (wpAny_mono (AV_name (C := C) (E := E) (Q := fun p σ' => p = .ref l ∧ σ' = σ) hx ⟨rfl, rfl⟩ hd hn s r) (fun u s₁ ⟨o, σ₁, hu, r₁, e1, e2⟩ => ?_) fun _ _ e => e)
  subst e1; subst e2
  refine wpAny_Slice (wpAny_mono (AOpt_part (AOpt_none (C := C) (E := E) (Q := fun p σ' => p = .none ∧ σ' = σ₁) ⟨rfl, rfl⟩) s₁ r₁) (fun ua s₂ ⟨a, σ₂, hua, r₂, e1, e2⟩ => ?_) fun _ _ e => e)
  subst e1; subst e2
  refine wpAny_mono (AOpt_part (AOpt_some (C := C) (E := E) (e := .Constant (.int up) k pq) (Q := fun p σ' => p = .int up ∧ σ' = σ₂) (AV_int ⟨rfl, rfl⟩)) s₂ r₂) (fun ub s₃ ⟨b, σ₃, hub, r₃, e1, e2⟩ => ?_) fun _ _ e => e
  subst e1; subst e2
  refine wpAny_pure ?_
  cases hu
  have hw : s₃.heap.IsList l ws.toArray := let ⟨o, ho, hr⟩ := hl; ⟨o, r₃.heap.keep l o (r₃.1.base l o ho), hr⟩
  have hw' : (s₃.heap.push { cls := .type "slice", data := .fields #[ua, ub, .none] }).IsList l ws.toArray := hw.push _
  have rh : RelH C σ₃ (s₃.heap.push { cls := .type "slice", data := .fields #[ua, ub, .none] }) := r₃.heap.push _
  refine tail_any (ops := [.ref s₃.heap.objs.size, .ref l]) (T := "list") ?_ slot_list_getitem.lookup (wpAny_getItem_list_slice hw' (Heap.IsSliceOf.new ..) (PartR.none.is hua) ((PartR.int up).is hub) .none (by simp) ?_ ?_) rfl
  · exact hw'.typeIs
  · refine ⟨.ref _, σ₃.pt _ (.list (nums (xs.take up.toNat))), .ref _, ?_, h _ (rh.fresh (heap_size_none _)).2.2.2⟩
    refine r₃.toH (rh.alloc (heap_size_none _) (fun b o e => Heap.get?_push_of_some _ e) (Heap.get?_push_size _ rfl) (p := .list (nums (xs.take up.toNat))) ⟨_, 0, rfl, ?_⟩)
    have := pick_of (lo := none) (hi := some up) hI (by intro a e; cases e) (by intro b e; cases e; exact h0)
    rwa [pickP_nums] at this
  · rw [List.size_toArray, hI.length, nums_length]; exact hsz

end Mine

namespace Mine

theorem enter {prog p : Program} {w : World} {loose : List Str} {mean : ExcName → Option Value} {mg mb : Str → Option Value} {s₁ : Shared} {f : Fn} {c0 : Addr} {h₁ : Heap} {tk₁ : Nat} {m cm : Str → Option Value} {cells : List (Addr × Obj)}
    {E : Value → Shared → Prop} {Q : Flow → Shared → Prop}
    (T : Top p loose mean mg mb s₁.heap) (hcr : s₁.heap.CodeRec (.ref c0) f.name) (F : Fr s₁.heap s₁.heap.objs.size h₁ m) (N : News s₁.heap s₁.heap.objs.size h₁ cells)
    (X : CellsAre cm (cellsFrom (s₁.heap.objs.size + 1) f.scope.names []) cells) (hk : f.scope.kind = .function) (x : Str) (l : Addr) (hx : f.scope.names.lookup x = some .local) (hm : m x = some (.ref l))
    (hbody : ∀ C, In (topGl prog p w mg mb s₁.heap) f C → FrOK C [] (fun _ => none) → C.env.scope = f.scope → C.bud = 50 → AF C (execs f.body C.env) (fun fl _ => fl = .ret (.bool true)) E ⟨updS (fun _ => none) x (.ref l), fun _ => none⟩)
    (hfin : ∀ h' tk, (∀ b o, s₁.heap.get? b = some o → h'.get? b = some o) → Q (.ret (.bool true)) { s₁ with heap := h', toks := tk }) :
    wpAny (model prog w) (callerA.deeper (envOfC f.name f.scope s₁.heap.objs.size f.addr (.ref c0))) (execs f.body (envOfC f.name f.scope s₁.heap.objs.size f.addr (.ref c0))) Q E { s₁ with heap := h₁, toks := tk₁ } := by
  let env' := envOfC f.name f.scope s₁.heap.objs.size f.addr (.ref c0)
  let C : Cx := { G := topGl prog p w mg mb s₁.heap, A := callerA.deeper env', env := env', fz := frz s₁.heap (fun _ => none) s₁.heap.objs.size, s0 := s₁, wr := wrOf f.scope.names, gl := glOf f.scope.names, cv := cvOf f.scope.names, bud := 50, hd := true }
  have hkd : ∀ y, C.env.kindOf y = f.scope.names.lookup y := fun y => rfl
  have hab : ∀ n c, (n, c) ∈ cellsFrom (s₁.heap.objs.size + 1) f.scope.names [] → s₁.heap.objs.size < c := fun n c hm => by
    rcases cellsFrom_mem _ _ _ _ hm with h | h
    · cases h
    · exact h.1
  have hinj := cellsFrom_inj 0 f.scope.names (s₁.heap.objs.size + 1) [] (Nat.zero_le _) (by intro e he; cases he) (by intro e he; cases he)
  have hcell : ∀ y c, C.env.cells.lookup y = some c → ∃ v, h₁.IsCell c v := by
    intro y c hc
    have hmem := mem_of_lookup (show (cellsFrom (s₁.heap.objs.size + 1) f.scope.names []).lookup y = some c from hc)
    have key : ∀ {cs : List (Str × Addr)} {cells : List (Addr × Obj)}, CellsAre cm cs cells → (y, c) ∈ cs → ∃ o v, (c, o) ∈ cells ∧ o.data = .cell v := by
      intro cs cells X
      induction X with
      | nil => intro h; cases h
      | cons h1 _ ih =>
        intro h
        rcases List.mem_cons.mp h with h | h
        · cases h; exact ⟨_, _, .head _, h1⟩
        · obtain ⟨o, v, h2, h3⟩ := ih h; exact ⟨o, v, .tail _ h2, h3⟩
    obtain ⟨o, v, h2, h3⟩ := key X hmem
    exact ⟨v, o, N.get h2, h3⟩
  obtain ⟨cc, oc, vs, t, hcd, hoc, hdc, _⟩ := id hcr
  have okC : CxOK C := {
    ok := topGl_ok T
    kind := hk
    globals := rfl
    builtins := rfl
    own := frz_ge (h := s₁.heap) (hp := fun _ => none) (L := s₁.heap.objs.size) (Nat.le_refl _)
    cellne := fun y c e => Nat.ne_of_gt (hab y c (mem_of_lookup e))
    celldist := fun y z c e e' => by
      have := hinj _ (mem_of_lookup e) _ (mem_of_lookup e') (Nat.zero_le _) rfl
      exact congrArg Prod.fst this
    wrcell := fun y c _ _ e => frz_ge (h := s₁.heap) (hp := fun _ => none) (L := s₁.heap.objs.size) (Nat.le_of_lt (hab y c (mem_of_lookup e)))
    wrhas := fun y hy => by
      have : (f.scope.names.lookup y == some .local || f.scope.names.lookup y == some .cell) = true := hy
      rcases Bool.or_eq_true_iff.mp this with h | h
      · exact .inl ((hkd y).trans (by simpa using h))
      · have h' : f.scope.names.lookup y = some .cell := by simpa using h
        exact .inr ⟨(hkd y).trans h', Option.isSome_iff_exists.mp (cellsFrom_some _ _ _ (.inl h'))⟩
    glhas := fun y hy => (hkd y).trans (by simpa [glOf] using show glOf f.scope.names y = true from hy)
    handled := fun _ => rfl
    cvhas := fun y hy => by
      have h' : f.scope.names.lookup y = some .cell := by simpa [cvOf] using show cvOf f.scope.names y = true from hy
      exact Option.isSome_iff_exists.mp (cellsFrom_some _ _ _ (.inl h'))
    cvkind := fun y hy => by
      have h' : f.scope.names.lookup y = some .cell := by simpa [cvOf] using show cvOf f.scope.names y = true from hy
      rw [hkd, h']; intro e; cases e
    depth := by
      show callerA.depth + 1 + 50 < recursionLimit
      decide
    units := by
      show callerA.units + 3 + 3 * 50 + 100 < cLine
      decide
    base := fun b o e => frz_of (h := s₁.heap) (hp := fun _ => none) (L := s₁.heap.objs.size) (Heap.lt_size e) rfl e
    code := ⟨c0, oc, vs, rfl, by cases hcd; exact hoc, hdc⟩ }
  have rel : Rel C ⟨updS (fun _ => none) x (.ref l), fun _ => none⟩ { s₁ with heap := h₁, toks := tk₁ } := by
    refine ⟨okC, h₁, tk₁, rfl, ?_⟩
    have hxy : ∀ {y v}, updS (fun _ => none) x (PV.ref l) y = some v → y = x ∧ v = .ref l := by
      intro y v e
      unfold updS at e
      split at e
      · next h => cases e; exact ⟨h, rfl⟩
      · cases e
    exact {
      keep := fun b o e => F.keep b o (frz_some (h := s₁.heap) (hp := fun _ => none) (L := s₁.heap.objs.size) e).2.2
      ns := ⟨m, F.ns, fun y v e k => by obtain ⟨rfl, rfl⟩ := hxy e; exact ⟨_, hm, .ref l⟩⟩
      cell := fun y v e k => by obtain ⟨rfl, rfl⟩ := hxy e; exact absurd hx k
      kinds := fun y v e => by obtain ⟨rfl, rfl⟩ := hxy e; exact .inl hx
      cells := hcell
      obj := fun a o e => by cases e
      free := fun a o e => by cases e }
  refine wpAG (hbody C ⟨rfl, rfl, rfl, rfl, rfl⟩ ⟨rfl, rfl, by intro e he; cases he⟩ rfl rfl _ rel) (fun fl s' pf σ' hfl r' hq => ?_) fun _ _ e => e
  subst hq
  obtain ⟨_, h', tk', rfl, rh'⟩ := r'
  cases hfl with
  | ret hv =>
    cases hv
    exact hfin h' tk' fun b o e => rh'.keep b o (frz_of (h := s₁.heap) (hp := fun _ => none) (L := s₁.heap.objs.size) (Heap.lt_size e) rfl e)
end Mine

namespace Mine

def recFn (p : Program) (k : Nat) (a : Addr) : Fn := match (recsOf p)[k]? with
  | some d => ⟨a, d.name, d.params, d.body, d.scope⟩
  | none => ⟨a, Str.empty, { posonlyargs := [], args := [], vararg := none, kwonlyargs := [], kw_defaults := [], kwarg := none, defaults := [] }, [], default⟩

def biNames : List String := ["len", "range", "set", "list", "sorted", "str", "RuntimeError", "max"]
def biVal (x : String) : Value := if x == "len" then .builtin "len" else if x == "sorted" then .builtin "sorted" else if x == "max" then .builtin "max" else .type x
theorem bi_boot : (biNames.all fun x => bootBuiltins (Str.ofString x) == some (biVal x)) = true := by decide +kernel

section
variable {prog p : Program} {w : World} {loose : List Str} {mean : ExcName → Option Value} {mg mb : Str → Option Value} {h : Heap}
theorem topGl_fn (T : Top p loose mean mg mb h) {k : Nat} (hk : k < (recsOf p).length) : ∃ a, (topGl prog p w mg mb h).gt (recFn p k 0).name = some (.ref a) ∧ (topGl prog p w mg mb h).isFn (recFn p k a) := by
  have hg : (recsOf p)[k]? = some (recsOf p)[k] := List.getElem?_eq_getElem hk
  have hm : (recsOf p)[k] ∈ recsOf p := List.getElem_mem hk
  obtain ⟨a, o, pm, code, doc, h1, h2, h3, h4⟩ := T.fn _ hm
  refine ⟨a, ?_, (recsOf p)[k], hm, ?_, ?_⟩
  · have : (recFn p k 0).name = (recsOf p)[k].name := by unfold recFn; rw [hg]
    rw [this]
    show (match mg _ with | some v => some v | none => mb _) = _
    rw [h1]
  · have : (recFn p k a).addr = a := by unfold recFn; rw [hg]
    rw [this]; exact h1
  · unfold recFn; rw [hg]

theorem topGl_bi (T : Top p loose mean mg mb h) {x : String} (hx : x ∈ biNames)
    (hn : (biNames.all fun x => decide (Str.ofString x ∉ startupNames) && decide (Str.ofString x ∉ loose) && decide (Str.ofString x ∉ (recsOf p).map (·.name)) && decide (Str.ofString x ∉ (litsOf p).map (·.1)) &&
      decide (Str.ofString x ∉ (clssOf p loose).map (·.name)) && decide (Str.ofString x ≠ "__name__")) = true) : (topGl prog p w mg mb h).gt (Str.ofString x) = some (biVal x) := by
  have h1 := List.all_eq_true.mp hn x hx
  have h2 := List.all_eq_true.mp bi_boot x hx
  simp only [Bool.and_eq_true, decide_eq_true_eq] at h1
  obtain ⟨⟨⟨⟨⟨a1, a2⟩, a3⟩, a4⟩, a5⟩, a6⟩ := h1
  show (match mg _ with | some v => some v | none => mb _) = _
  rw [T.free _ a1 a2 a3 a4 a5]
  show mb _ = _
  rw [T.builtins _ a6]
  exact eq_of_beq h2
end
end Mine

namespace Mine

/-! ## plain: what stands ahead -/
inductive Tc (ps : List (Int × Int)) : Int → Int → Prop
  | one {x y} : (x, y) ∈ ps → Tc ps x y
  | cons {x y z} : (x, y) ∈ ps → Tc ps y z → Tc ps x z
theorem Tc.trans {ps : List (Int × Int)} {x y z : Int} (h : Tc ps x y) (k : Tc ps y z) : Tc ps x z := by
  induction h with
  | one h => exact .cons h k
  | cons h _ ih => exact .cons h (ih k)
theorem Tc.mono {ps qs : List (Int × Int)} (hs : ∀ p ∈ ps, p ∈ qs) {x y : Int} (h : Tc ps x y) : Tc qs x y := by
  induction h with
  | one h => exact .one (hs _ h)
  | cons h _ ih => exact .cons (hs _ h) ih

def Bf (rows : Rows) (x y : Int) : Prop := ∃ r ∈ rows, ∃ p q, r = p ++ y :: q ∧ x ∈ p
def Fre (rows : Rows) (U : List Int) (y : Int) : Prop := ∀ x, Bf rows x y → x ∈ U

theorem prs_mem {r : List Int} {x y : Int} : (x, y) ∈ prs r → ∃ p q, r = p ++ x :: y :: q := by
  intro h
  obtain ⟨k, hk⟩ := List.mem_iff_getElem?.mp h
  unfold prs at hk
  rw [List.getElem?_zip_eq_some] at hk
  obtain ⟨h1, h2⟩ := hk
  rw [List.getElem?_tail] at h2
  refine ⟨r.take k, r.drop (k + 2), ?_⟩
  have e1 := split_at h1
  have e2 := split_at h2
  have e3 : r.drop (k + 1) = y :: r.drop (k + 2) := by
    obtain ⟨hl, he⟩ := List.getElem?_eq_some_iff.mp h2
    rw [List.drop_eq_getElem_cons hl, he]
  rw [e3] at e1
  exact e1
theorem prs_of {p q : List Int} {x y : Int} : (x, y) ∈ prs (p ++ x :: y :: q) := by
  have h := prs_get (r := p ++ x :: y :: q) (k := p.length) (x := x) (y := y) (by simp) (by simp)
  exact List.mem_of_getElem? h
theorem tc_row : ∀ (q : List Int) {p t : List Int} {x y : Int}, Tc (prs (p ++ x :: (q ++ y :: t))) x y
  | [], p, t, x, y => .one prs_of
  | z :: q, p, t, x, y => by
    have h := tc_row q (p := p ++ [x]) (t := t) (x := z) (y := y)
    rw [List.append_assoc] at h
    exact .cons (prs_of (p := p) (q := q ++ y :: t)) h
theorem Bf.tc {rows : Rows} {x y : Int} (h : Bf rows x y) : Tc (allPrs rows) x y := by
  obtain ⟨r, hr, p, q, rfl, hx⟩ := h
  obtain ⟨p1, p2, rfl⟩ := List.append_of_mem hx
  have := tc_row p2 (p := p1) (t := q) (x := x) (y := y)
  refine Tc.mono (fun e he => ?_) this
  unfold allPrs
  refine List.mem_flatMap.mpr ⟨_, hr, ?_⟩
  rw [show p1 ++ x :: p2 ++ y :: q = p1 ++ x :: (p2 ++ y :: q) by simp]
  exact he
theorem Bf.of_pr {rows : Rows} {x y : Int} (h : (x, y) ∈ allPrs rows) : Bf rows x y := by
  obtain ⟨r, hr, h⟩ := List.mem_flatMap.mp h
  obtain ⟨p, q, rfl⟩ := prs_mem h
  exact ⟨_, hr, p ++ [x], q, by simp, by simp⟩
theorem Tc.mem_left {rows : Rows} {x y : Int} (h : Tc (allPrs rows) x y) : ∃ r ∈ rows, x ∈ r := by
  have key : ∀ {x y}, (x, y) ∈ allPrs rows → ∃ r ∈ rows, x ∈ r := fun h => by
    obtain ⟨r, hr, p, q, rfl, hx⟩ := Bf.of_pr h
    exact ⟨_, hr, List.mem_append_left _ hx⟩
  cases h with
  | one h => exact key h
  | cons h _ => exact key h
theorem Tc.mem_right {rows : Rows} {x y : Int} (h : Tc (allPrs rows) x y) : ∃ r ∈ rows, y ∈ r := by
  induction h with
  | one h => obtain ⟨r, hr, p, q, rfl, hx⟩ := Bf.of_pr h; exact ⟨_, hr, by simp⟩
  | cons _ _ ih => exact ih

/-! ## the closure as it is reckoned -/
theorem War_sound {ps : List (Int × Int)} : ∀ (m i : Nat) (j : Int), War (setOf ps) m i j = true → Tc ps j i
  | 0, i, j, h => .one (by simpa [War, setOf] using h)
  | m + 1, i, j, h => by
    have h' : (War (setOf ps) m i j || (War (setOf ps) m i m && War (setOf ps) m m j)) = true := h
    rcases Bool.or_eq_true_iff.mp h' with h' | h'
    · exact War_sound m i j h'
    · obtain ⟨h1, h2⟩ := Bool.and_eq_true_iff.mp h'
      exact (War_sound m m j h2).trans (War_sound m i m h1)
theorem War_step {base : Nat → Int → Bool} {m i : Nat} {j : Int} : War base (m + 1) i j = true ↔ War base m i j = true ∨ (War base m i m = true ∧ War base m m j = true) := by
  show (War base m i j || (War base m i m && War base m m j)) = true ↔ _
  simp
theorem War_trans {base : Nat → Int → Bool} : ∀ (m i k : Nat) (j : Int), k < m → War base m i k = true → War base m k j = true → War base m i j = true
  | 0, i, k, j, h, _, _ => by omega
  | m + 1, i, k, j, hk, h1, h2 => by
    rw [War_step] at h1 h2 ⊢
    by_cases hkm : k = m
    · subst hkm
      right
      exact ⟨h1.elim id (·.1), h2.elim id (·.2)⟩
    · have hlt : k < m := by omega
      rcases h1 with h1 | ⟨h1, h1'⟩ <;> rcases h2 with h2 | ⟨h2, h2'⟩
      · exact .inl (War_trans m i k j hlt h1 h2)
      · exact .inr ⟨War_trans m i k m hlt h1 h2, h2'⟩
      · exact .inr ⟨h1, War_trans m m k j hlt h1' h2⟩
      · exact .inr ⟨h1, h2'⟩
theorem War_mono {base : Nat → Int → Bool} {i : Nat} {j : Int} (h : base i j = true) : ∀ m, War base m i j = true
  | 0 => h
  | m + 1 => War_step.mpr (.inl (War_mono h m))
theorem War_tc {ps : List (Int × Int)} {n : Nat} (hb : ∀ p ∈ ps, (0 ≤ p.1 ∧ p.1 < n) ∧ 0 ≤ p.2 ∧ p.2 < n) {x y : Int} (h : Tc ps x y) : War (setOf ps) n y.toNat x = true := by
  have base : ∀ {x y : Int}, (x, y) ∈ ps → War (setOf ps) n y.toNat x = true := fun {x y} h => by
    have h2 := (hb _ h).2.1
    refine War_mono ?_ n
    unfold setOf
    rw [decide_eq_true_eq, Int.toNat_of_nonneg h2]
    exact h
  induction h with
  | one h => exact base h
  | @cons x y z h _ ih =>
    have hy := (hb _ h).2
    have h1 := base h
    have e : ((y.toNat : Nat) : Int) = y := Int.toNat_of_nonneg hy.1
    refine War_trans n _ y.toNat x (by simp only at hy; omega) ?_ h1
    rw [e]; exact ih
theorem war_iff {ps : List (Int × Int)} {n : Nat} (hb : ∀ p ∈ ps, (0 ≤ p.1 ∧ p.1 < n) ∧ 0 ≤ p.2 ∧ p.2 < n) {i : Nat} {j : Int} : War (setOf ps) n i j = true ↔ Tc ps j i :=
  ⟨War_sound n i j, fun h => by have := War_tc hb h; rwa [Int.toNat_natCast] at this⟩

/-! ## the merge -/
def cut (U : List Int) (r : List Int) : List Int := r.filter fun x => decide (x ∉ U)
theorem cut_nil (r : List Int) : cut [] r = r := by unfold cut; simp
theorem cut_map_nil (rows : Rows) : rows.map (cut []) = rows := by
  rw [show cut [] = id from funext cut_nil]; simp
theorem mem_cut {U r : List Int} {x : Int} : x ∈ cut U r ↔ x ∈ r ∧ x ∉ U := by simp [cut]
theorem cut_append (U p q : List Int) : cut U (p ++ q) = cut U p ++ cut U q := by simp [cut]
theorem cut_cons_of {U q : List Int} {x : Int} (h : x ∉ U) : cut U (x :: q) = x :: cut U q := by simp [cut, h]
theorem cut_cut (U V r : List Int) : cut V (cut U r) = cut (U ++ V) r := by
  unfold cut
  rw [List.filter_filter]
  congr 1
  funext x
  simp [Bool.and_comm]
theorem strip_row {c : Int} {r : List Int} (h : c ∉ r.tail) : (if r.head? = some c then r.tail else r) = cut [c] r := by
  cases r with
  | nil => rfl
  | cons x xs =>
    have hx : cut [c] xs = xs := by
      unfold cut
      rw [List.filter_eq_self]
      intro a ha
      have hac : a ≠ c := by rintro rfl; exact h ha
      simp [hac]
    by_cases hc : x = c
    · subst hc
      rw [if_pos (show (x :: xs).head? = some x from rfl)]
      show xs = cut [x] (x :: xs)
      conv => lhs; rw [← hx]
      unfold cut
      simp
    · rw [if_neg (by simpa using hc), cut_cons_of (by simpa using hc), hx]
theorem strip_cut {c : Int} {rows : Rows} (h : ¬ Held rows c) : strip c rows = rows.map (cut [c]) := by
  unfold strip
  refine List.map_congr_left fun r hr => strip_row fun hc => h ⟨r, hr, hc⟩

theorem C3.path {rows : Rows} {out : List Int} {rest : Rows} {b : Bool} (h : C3 rows out rest b) : ∀ (U : List Int) (rows0 : Rows), rows = rows0.map (cut U) →
    (∀ pre c post, out = pre ++ c :: post → Pick (rows0.map (cut (U ++ pre))) c) ∧ rest = rows0.map (cut (U ++ out)) ∧ (b = true → ∀ r ∈ rest, r = []) ∧
    (b = false → (∃ r ∈ rest, r ≠ []) ∧ ∀ r ∈ rest, ∀ d, r.head? = some d → Held rest d) := by
  induction h with
  | done h => intro U rows0 e; refine ⟨fun pre c post e' => by simp at e', by simpa using e, fun _ => h, fun h => by cases h⟩
  | stuck h1 h2 => intro U rows0 e; refine ⟨fun pre c post e' => by simp at e', by simpa using e, fun h => by (cases h), fun _ => ⟨h1, h2⟩⟩
  | @step rows c o rest b hp _ ih =>
    intro U rows0 e
    have hn : ¬ Held rows c := by obtain ⟨_, _, _, _, h, _⟩ := hp; exact h
    have he : strip c rows = rows0.map (cut (U ++ [c])) := by
      rw [strip_cut hn, e, List.map_map]
      refine List.map_congr_left fun r _ => cut_cut U [c] r
    obtain ⟨i1, i2, i3, i4⟩ := ih (U ++ [c]) rows0 he
    refine ⟨fun pre d post e' => ?_, by rw [i2]; simp, i3, i4⟩
    cases pre with
    | nil => simp at e'; obtain ⟨rfl, rfl⟩ := e'; rw [List.append_nil, ← e]; exact hp
    | cons a pre =>
      simp at e'
      obtain ⟨rfl, e'⟩ := e'
      have := i1 pre d post e'
      rwa [List.append_assoc] at this

theorem C3.picks {rows : Rows} {out : List Int} {rest : Rows} {b : Bool} (h : C3 rows out rest b) {pre : List Int} {c : Int} {post : List Int} (e : out = pre ++ c :: post) : Pick (rows.map (cut pre)) c := by
  have := (h.path [] rows (cut_map_nil rows).symm).1 pre c post e
  simpa using this
theorem C3.rest_eq {rows : Rows} {out : List Int} {rest : Rows} {b : Bool} (h : C3 rows out rest b) : rest = rows.map (cut out) := by
  have := (h.path [] rows (cut_map_nil rows).symm).2.1
  simpa using this

theorem held_of {rows : Rows} {U : List Int} {y : Int} (h : Held (rows.map (cut U)) y) : y ∉ U ∧ ∃ x, x ∉ U ∧ Bf rows x y := by
  obtain ⟨r', hr', hy⟩ := h
  obtain ⟨r, hr, rfl⟩ := List.mem_map.mp hr'
  have hyr := List.mem_of_mem_tail hy
  have hyU := (mem_cut.mp hyr).2
  refine ⟨hyU, ?_⟩
  cases hc : cut U r with
  | nil => rw [hc] at hy; cases hy
  | cons x xs =>
    rw [hc] at hy
    have hy' : y ∈ xs := hy
    obtain ⟨p, q, rfl⟩ := List.append_of_mem hy'
    have hcc : cut U r = (x :: p) ++ (y :: q) := hc
    obtain ⟨l1, l2, rfl, h1, h2⟩ := List.filter_eq_append_iff.mp hcc
    obtain ⟨l3, l4, rfl, h3, h4, h5⟩ := List.filter_eq_cons_iff.mp h2
    have hx : x ∈ cut U l1 := by show x ∈ List.filter _ l1; rw [h1]; exact .head _
    obtain ⟨hx1, hx2⟩ := mem_cut.mp hx
    exact ⟨x, hx2, _, hr, l1 ++ l3, l4, by simp, List.mem_append_left _ hx1⟩
theorem held_mk {rows : Rows} {U : List Int} {x y : Int} (hy : y ∉ U) (hx : x ∉ U) (h : Bf rows x y) : Held (rows.map (cut U)) y := by
  obtain ⟨r, hr, p, q, rfl, hp⟩ := h
  refine ⟨_, List.mem_map.mpr ⟨_, hr, rfl⟩, ?_⟩
  rw [cut_append, cut_cons_of hy]
  have : x ∈ cut U p := mem_cut.mpr ⟨hp, hx⟩
  cases hc : cut U p with
  | nil => rw [hc] at this; cases this
  | cons z zs => simp
theorem Pick.mem {rows : Rows} {U : List Int} {c : Int} (h : Pick (rows.map (cut U)) c) : (∃ r ∈ rows, c ∈ r) ∧ c ∉ U := by
  obtain ⟨pre, row, post, e, _, _⟩ := h
  have : c :: row ∈ rows.map (cut U) := by rw [e]; simp
  obtain ⟨r, hr, hc⟩ := List.mem_map.mp this
  have hm : c ∈ cut U r := by rw [hc]; exact .head _
  exact ⟨⟨r, hr, (mem_cut.mp hm).1⟩, (mem_cut.mp hm).2⟩
theorem Pick.free {rows : Rows} {U : List Int} {c : Int} (h : Pick (rows.map (cut U)) c) : Fre rows U c := by
  intro x hx
  have hc := h.mem.2
  obtain ⟨_, _, _, _, hn, _⟩ := h
  exact Classical.byContradiction fun hxU => hn (held_mk hc hxU hx)
theorem Fre.not_held {rows : Rows} {U : List Int} {c : Int} (h : Fre rows U c) : ¬ Held (rows.map (cut U)) c := fun hh => by
  obtain ⟨_, x, hx, hb⟩ := held_of hh
  exact hx (h x hb)

theorem nodup_of_split {l : List Int} (h : ∀ pre c post, l = pre ++ c :: post → c ∉ pre) : l.Nodup := by
  have key : ∀ (done todo : List Int), l = done ++ todo → done.Nodup → l.Nodup := by
    intro done todo
    induction todo generalizing done with
    | nil => intro e hd; rw [List.append_nil] at e; rwa [e]
    | cons c todo ih =>
      intro e hd
      refine ih (done ++ [c]) (by simpa using e) ?_
      rw [List.nodup_append]
      refine ⟨hd, by simp, fun a ha b hb => ?_⟩
      simp at hb; subst hb
      rintro rfl
      exact h done a todo e ha
  exact key [] l rfl .nil
theorem C3.nodup {rows : Rows} {out : List Int} {rest : Rows} {b : Bool} (h : C3 rows out rest b) : out.Nodup := nodup_of_split fun pre c post e => (h.picks e).mem.2
theorem C3.sub {rows : Rows} {out : List Int} {rest : Rows} {b : Bool} (h : C3 rows out rest b) {x : Int} (hx : x ∈ out) : ∃ r ∈ rows, x ∈ r := by
  obtain ⟨pre, post, e⟩ := List.append_of_mem hx
  exact (h.picks e).mem.1
theorem C3.all {rows : Rows} {out : List Int} {rest : Rows} (h : C3 rows out rest true) {x : Int} : x ∈ out ↔ ∃ r ∈ rows, x ∈ r := by
  refine ⟨h.sub, fun ⟨r, hr, hx⟩ => Classical.byContradiction fun hn => ?_⟩
  have h3 := (h.path [] rows (cut_map_nil rows).symm).2.2.1 rfl
  have := h3 (cut out r) (by rw [h.rest_eq]; exact List.mem_map.mpr ⟨r, hr, rfl⟩)
  have hm := mem_cut.mpr ⟨hx, hn⟩
  rw [this] at hm; cases hm
/-- what is told keeps what stands ahead -/
theorem C3.keeps {rows : Rows} {out : List Int} {rest : Rows} {b : Bool} (h : C3 rows out rest b) {x y : Int} (ht : Tc (allPrs rows) x y) : ∀ {pre post : List Int}, out = pre ++ y :: post → x ∈ pre := by
  induction ht with
  | one hp => intro pre post e; exact (h.picks e).free _ (Bf.of_pr hp)
  | @cons x z y hp _ ih =>
    intro pre post e
    have hz := ih e
    obtain ⟨p1, p2, rfl⟩ := List.append_of_mem hz
    exact List.mem_append_left _ ((h.picks (pre := p1) (c := z) (post := p2 ++ y :: post) (by rw [e]; simp)).free _ (Bf.of_pr hp))
theorem C3.not_ring {rows : Rows} {out : List Int} {rest : Rows} {b : Bool} (h : C3 rows out rest b) {x : Int} (hx : x ∈ out) : ¬ Tc (allPrs rows) x x := fun ht => by
  obtain ⟨pre, post, e⟩ := List.append_of_mem hx
  exact (h.picks e).mem.2 (h.keeps ht e)
theorem C3.true_no_ring {rows : Rows} {out : List Int} {rest : Rows} (h : C3 rows out rest true) (x : Int) : ¬ Tc (allPrs rows) x x := fun ht =>
  h.not_ring (h.all.mpr ht.mem_left) ht

/-- in a finite heap where each has one ahead, one stands ahead of itself -/
theorem ring_of {α : Type} {R : α → α → Prop} (ht : ∀ x y z, R x y → R y z → R x z) : ∀ (n : Nat) (H : List α), H.length ≤ n → (∀ d ∈ H, ∃ e ∈ H, R e d) → ∀ d ∈ H, ∃ e ∈ H, R e e ∧ R e d
  | 0, H, hn, _, d, hd => by cases H with | nil => cases hd | cons a l => simp at hn
  | n + 1, H, hn, hp, d, hd => by
    classical
    by_cases hdd : R d d
    · exact ⟨d, hd, hdd, hdd⟩
    · obtain ⟨e, he, hed⟩ := hp d hd
      have hlen : (H.filter fun x => decide (R x d)).length ≤ n := by
        have h1 : (H.filter fun x => decide (R x d)).length < H.length := by
          rw [List.length_filter_lt_length_iff_exists]
          exact ⟨d, hd, by simp [hdd]⟩
        omega
      obtain ⟨f, hf, hff, hfe⟩ := ring_of ht n (H.filter fun x => decide (R x d)) hlen (fun x hx => by
        obtain ⟨hx1, hx2⟩ := List.mem_filter.mp hx
        obtain ⟨y, hy, hyx⟩ := hp x hx1
        exact ⟨y, List.mem_filter.mpr ⟨hy, by simpa using ht _ _ _ hyx (by simpa using hx2)⟩, hyx⟩) e (List.mem_filter.mpr ⟨he, by simpa using hed⟩)
      exact ⟨f, (List.mem_filter.mp hf).1, hff, by simpa using (List.mem_filter.mp hf).2⟩

theorem C3.stuck_ring {rows : Rows} {out : List Int} {rest : Rows} (h : C3 rows out rest false) {x : Int} {r : List Int} (hr : r ∈ rest) (hx : x ∈ r) : ∃ e, Tc (allPrs rows) e e ∧ Tc (allPrs rows) e x := by
  obtain ⟨_, hst⟩ := (h.path [] rows (cut_map_nil rows).symm).2.2.2 rfl
  have hre := h.rest_eq
  have hbf : ∀ {d : Int}, Held rest d → ∃ e, e ∈ rest.filterMap List.head? ∧ Tc (allPrs rows) e d := by
    intro d hd
    obtain ⟨r', hr', hd'⟩ := id hd
    cases hc : r' with
    | nil => rw [hc] at hd'; cases hd'
    | cons e es =>
      rw [hc] at hd'
      refine ⟨e, List.mem_filterMap.mpr ⟨r', hr', by rw [hc]; rfl⟩, ?_⟩
      rw [hre] at hr'
      obtain ⟨r0, hr0, hc0⟩ := List.mem_map.mp hr'
      have hd2 : d ∈ es := hd'
      obtain ⟨p, q, rfl⟩ := List.append_of_mem hd2
      have hcc : cut out r0 = (e :: p) ++ (d :: q) := by rw [hc0, hc]; rfl
      obtain ⟨l1, l2, rfl, h1, h2⟩ := List.filter_eq_append_iff.mp hcc
      obtain ⟨l3, l4, rfl, h3, h4, h5⟩ := List.filter_eq_cons_iff.mp h2
      have hx : e ∈ cut out l1 := by show e ∈ List.filter _ l1; rw [h1]; exact .head _
      obtain ⟨hx1, hx2⟩ := mem_cut.mp hx
      exact Bf.tc ⟨_, hr0, l1 ++ l3, l4, by simp, List.mem_append_left _ hx1⟩
  have hring := ring_of (R := Tc (allPrs rows)) (fun _ _ _ a b => a.trans b) _ (rest.filterMap List.head?) (Nat.le_refl _) (fun d hd => by
    obtain ⟨r', hr', hd'⟩ := List.mem_filterMap.mp hd
    exact hbf (hst r' hr' d hd'))
  cases hc : r with
  | nil => rw [hc] at hx; cases hx
  | cons d ds =>
    have hdm : d ∈ rest.filterMap List.head? := List.mem_filterMap.mpr ⟨r, hr, by rw [hc]; rfl⟩
    obtain ⟨e, _, hee, hed⟩ := hring d hdm
    refine ⟨e, hee, ?_⟩
    rw [hc] at hx
    rcases List.mem_cons.mp hx with rfl | hx
    · exact hed
    · rw [hre] at hr
      obtain ⟨r0, hr0, hc0⟩ := List.mem_map.mp hr
      obtain ⟨p, q, rfl⟩ := List.append_of_mem hx
      have hcc : cut out r0 = (d :: p) ++ (x :: q) := by rw [hc0, hc]; rfl
      obtain ⟨l1, l2, rfl, h1, h2⟩ := List.filter_eq_append_iff.mp hcc
      obtain ⟨l3, l4, rfl, h3, h4, h5⟩ := List.filter_eq_cons_iff.mp h2
      have hx : d ∈ cut out l1 := by show d ∈ List.filter _ l1; rw [h1]; exact .head _
      obtain ⟨hx1, hx2⟩ := mem_cut.mp hx
      exact hed.trans (Bf.tc ⟨_, hr0, l1 ++ l3, l4, by simp, List.mem_append_left _ hx1⟩)
theorem C3.false_ring {rows : Rows} {out : List Int} {rest : Rows} (h : C3 rows out rest false) : ∃ e, Tc (allPrs rows) e e := by
  obtain ⟨⟨r, hr, hne⟩, _⟩ := (h.path [] rows (cut_map_nil rows).symm).2.2.2 rfl
  cases hc : r with
  | nil => exact absurd hc hne
  | cons x xs =>
    obtain ⟨e, h1, _⟩ := h.stuck_ring hr (x := x) (by rw [hc]; exact .head _)
    exact ⟨e, h1⟩
end Mine

namespace Mine

/-! ## the contents at an address -/
def intsP (vs : List PV) : List Int := vs.filterMap fun v => match v with | .int i => some i | _ => none
theorem intsP_nums (xs : List Int) : intsP (nums xs) = xs := by
  induction xs with
  | nil => rfl
  | cons x xs ih => rw [nums_cons]; unfold intsP at ih ⊢; rw [List.filterMap_cons]; simp [ih]
def curOf (hp : Addr → Option PO) (a : Addr) : List Int := match hp a with | some (.list vs) => intsP vs | _ => []
theorem curOf_at {hp : Addr → Option PO} {a : Addr} {r : List Int} (h : hp a = some (.list (nums r))) : curOf hp a = r := by unfold curOf; rw [h]; exact intsP_nums r
theorem At.atF {hp : Addr → Option PO} {as : List Addr} {rs : Rows} (h : At hp as rs) : AtF hp as (curOf hp) := fun a ha => by
  obtain ⟨r, _, hr⟩ := h.mem ha
  rw [curOf_at hr]; exact hr
theorem At.map {hp : Addr → Option PO} {as : List Addr} {rs : Rows} (h : At hp as rs) : as.map (curOf hp) = rs := by
  refine List.ext_getElem? fun i => ?_
  rw [List.getElem?_map]
  cases e : as[i]? with
  | none =>
    have : rs[i]? = none := by rw [List.getElem?_eq_none_iff] at e ⊢; rw [← h.1]; exact e
    rw [this]; rfl
  | some a =>
    obtain ⟨r, hr, hh⟩ := h.get e
    rw [hr]; simp [curOf_at hh]
theorem At.skip {hp : Addr → Option PO} {as : List Addr} {rs : Rows} (h : At hp as rs) {a : Addr} {o : PO} (ha : a ∉ as) : At (upd hp a o) as rs := ⟨h.1, fun i b r hb hr => by
  have hne : b ≠ a := by rintro rfl; exact ha (List.mem_of_getElem? hb)
  exact upd_skip hne (h.2 i b r hb hr)⟩
theorem At.append {hp : Addr → Option PO} {as bs : List Addr} {rs qs : Rows} (h : At hp as rs) (k : At hp bs qs) : At hp (as ++ bs) (rs ++ qs) := by
  induction as generalizing rs with
  | nil =>
    have : rs = [] := List.eq_nil_of_length_eq_zero h.1.symm
    subst this; exact k
  | cons a as ih =>
    cases rs with
    | nil => have := h.1; simp at this
    | cons r rs => exact (ih h.tail).cons (h.2 0 a r rfl rfl)
theorem At.left {hp : Addr → Option PO} {as : List Addr} {rs : Rows} {a : Addr} {r : List Int} (h : At hp (as ++ [a]) (rs ++ [r])) : At hp as rs := by
  have hl : as.length = rs.length := by have := h.1; simp at this; exact this
  refine ⟨hl, fun i b q hb hq => h.2 i b q ?_ ?_⟩
  · rw [List.getElem?_append_left (List.getElem?_eq_some_iff.mp hb).1]; exact hb
  · rw [List.getElem?_append_left (List.getElem?_eq_some_iff.mp hq).1]; exact hq
/-- copies of rows -/
def copyOf (hp : Addr → Option PO) : PV → PO
  | .ref a => .list (nums (curOf hp a))
  | _ => .list []
theorem copies_at {hp hp' : Addr → Option PO} {as ds : List Addr} {rs : Rows} (h : At hp as rs) (hl : ds.length = (refs as).length) (hall : ∀ (i : Nat) d v, ds[i]? = some d → (refs as)[i]? = some v → hp' d = some (copyOf hp v)) : At hp' ds rs := by
  rw [refs_length] at hl
  refine ⟨hl.trans h.1, fun i d r hd hr => ?_⟩
  have hi : i < as.length := by have := (List.getElem?_eq_some_iff.mp hd).1; omega
  have ha : as[i]? = some as[i] := List.getElem?_eq_getElem hi
  rw [hall i d (.ref as[i]) hd (by unfold refs; rw [List.getElem?_map, ha]; rfl)]
  show some (PO.list (nums (curOf hp as[i]))) = _
  rw [curOf_at (h.2 i _ r ha hr)]

theorem total_le {n : Nat} : ∀ {rs : Rows}, (∀ r ∈ rs, r.length ≤ n) → total rs ≤ rs.length * n
  | [], _ => by simp [total]
  | r :: rs, h => by
    have h1 := h r (.head _)
    have h2 := total_le (rs := rs) fun q hq => h q (.tail _ hq)
    rw [total_cons, List.length_cons, Nat.add_mul]; omega

def ringF (S : Nat → Int → Bool) : PV → Option PV
  | .int i => if S i.toNat i then some (.int i) else none
  | _ => none
def ringL (S : Nat → Int → Bool) (n : Nat) : List Int := ((List.range n).filter fun i => S i i).map fun (i : Nat) => (i : Int)
theorem ringF_map (S : Nat → Int → Bool) (n : Nat) : (intsFrom 0 n).filterMap (ringF S) = nums (ringL S n) := by
  unfold intsFrom ringL nums
  rw [List.filterMap_map, List.map_map]
  generalize List.range n = l
  induction l with
  | nil => rfl
  | cons i l ih =>
    rw [List.filterMap_cons, List.filter_cons, ih]
    simp only [Function.comp_apply, ringF, Int.zero_add, Int.toNat_natCast]
    by_cases hS : S i (i : Int) = true <;> simp [hS]
theorem ringL_nil {S : Nat → Int → Bool} {n : Nat} : ringL S n = [] ↔ ∀ i, i < n → S i i = false := by
  unfold ringL
  rw [List.map_eq_nil_iff, List.filter_eq_nil_iff]
  simp

theorem none_of_ext {f g : Addr → Option PO} (h : Ext f g) {a : Addr} (hn : g a = none) : f a = none := by
  cases e : f a with
  | none => rfl
  | some o => rw [h _ _ e] at hn; cases hn
theorem Ext.of_fx {as : List Addr} {f g k : Addr → Option PO} (h : Ext f g) (hn : ∀ a ∈ as, f a = none) (hx : Fx as g k) : Ext f k := fun a o e => hx a o (h a o e) fun hm => by rw [hn a hm] at e; cases e
theorem ne_of_some {f : Addr → Option PO} {a b : Addr} {o : PO} (ha : f a = some o) (hb : f b = none) : a ≠ b := by rintro rfl; rw [ha] at hb; cases hb
theorem FrOK.like {C C' : Cx} {outer : List Env} {hp hp' : Addr → Option PO} (F : FrOK C outer hp) (l : Like C C') (hn : ∀ a m, hp a = some (.ns m) → hp' a = some (.ns m)) : FrOK C' outer hp' where
  stack := by rw [l.A, l.env]; exact F.stack
  fr := by rw [l.env]; exact F.fr
  each := fun env he => let ⟨h1, L, m, h2, h3⟩ := F.each env he; ⟨h1, L, m, h2, hn _ _ h3⟩
theorem upd_none {f : Addr → Option PO} {a b : Addr} {o : PO} (h : b ≠ a) (hn : f b = none) : upd f a o b = none := by unfold upd; rw [if_neg h]; exact hn
theorem loc_del {σ : AS} {x y : Str} {r : Option PV} (h : y ≠ x) (e : σ.loc y = r) : (σ.del x).loc y = r := by
  show (if y = x then none else σ.loc y) = r
  rw [if_neg h]; exact e
theorem At.curMem {hp : Addr → Option PO} {as : List Addr} {rs : Rows} (h : At hp as rs) {a : Addr} (ha : a ∈ as) : curOf hp a ∈ rs := by
  rw [← h.map]; exact List.mem_map.mpr ⟨a, ha, rfl⟩
/-- all names but those are as they were -/
def SameL (σ σ' : AS) (ns : List Str) : Prop := ∀ x, x ∉ ns → σ'.loc x = σ.loc x
theorem SameL.get {σ σ' : AS} {ns : List Str} (h : SameL σ σ' ns) {x : Str} {v : PV} (e : σ.loc x = some v) (hx : x ∉ ns) : σ'.loc x = some v := (h x hx).trans e
theorem SameL.st {σ σ' : AS} {ns : List Str} (h : SameL σ σ' ns) {y : Str} {v : PV} (hy : y ∈ ns) : SameL σ (σ'.st y v) ns := fun x hx => by
  have hne : x ≠ y := by rintro rfl; exact hx hy
  rw [← h x hx]; exact loc_skip hne rfl
theorem SameL.del {σ σ' : AS} {ns : List Str} (h : SameL σ σ' ns) {y : Str} (hy : y ∈ ns) : SameL σ (σ'.del y) ns := fun x hx => by
  have hne : x ≠ y := by rintro rfl; exact hx hy
  rw [← h x hx]; simp [AS.del, hne]
theorem refs_snoc (os : List Addr) (d : Addr) : refs os ++ [PV.ref d] = refs (os ++ [d]) := by simp [refs]
end Mine

namespace Mine
open AutoSeq1 (wpAny_loadPart')
open MeetsSeq MeetsSeq2 MeetsSeq3

/-- lists of numbers, compared -/
def lexlt : List Int → List Int → Bool
  | [], [] => false
  | [], _ :: _ => true
  | _ :: _, [] => false
  | x :: xs, y :: ys => if x = y then lexlt xs ys else decide (x < y)

theorem VRs.int_at {xs : List Int} {vs : List Value} (h : VRs (nums xs) vs) (i : Nat) : (∃ x t, xs[i]? = some x ∧ vs[i]? = some (.int x t)) ∨ (xs[i]? = none ∧ vs[i]? = none) := by
  have hl := h.length
  rw [nums_length] at hl
  by_cases hi : i < xs.length
  · obtain ⟨v, hv, hr⟩ := h.get i (.int xs[i]) (by rw [nums_get?, List.getElem?_eq_getElem hi]; rfl)
    cases hr with
    | int _ t => exact .inl ⟨xs[i], t, List.getElem?_eq_getElem hi, hv⟩
  · exact .inr ⟨List.getElem?_eq_none (by omega), List.getElem?_eq_none (by omega)⟩

theorem lt_loop (l b : Addr) (xs ys : List Int) (vs ws : List Value) (hx : VRs (nums xs) vs) (hy : VRs (nums ys) ws) (n n2 : Nat) :
    ∀ (k i : Nat), xs.length - i = k → i ≤ xs.length → i ≤ ys.length → Meets (Builtin.«list.__eq__.loop» ⟨[.ref l, .ref b, rawInt i, rawInt 0], []⟩)
      (fun A R s => s.heap.get? l = some { cls := .type "list", dict := none, data := .seq vs.toArray n, slots := #[] } ∧ s.heap.get? b = some { cls := .type "list", dict := none, data := .seq ws.toArray n2, slots := #[] } ∧ R (.ok (.ret (.bool (lexlt (xs.drop i) (ys.drop i))))) s) := by
  have hlx := hx.length
  have hly := hy.length
  rw [nums_length] at hlx hly
  intro k
  induction k with
  | zero =>
    intro i hk hi1 hi2 prog w A R s h
    obtain ⟨hp, g, d, tk, os⟩ := s; obtain ⟨hl, hb, h⟩ := h
    wp_walk using wpAny_loadPart' hl, wpAny_loadPart' hb
    have hi1 : vs.toArray[((i : Nat) : Int).toNat]? = none := by simp; omega
    have hdx : xs.drop i = [] := List.drop_eq_nil_of_le (by omega)
    rw [hdx] at h
    rw [hi1]
    wp_walk using wpAny_loadPart' hl, wpAny_loadPart' hb
    show R (.ok (.ret (.bool (decide (vs.toArray.size < ws.toArray.size))))) _
    rw [List.size_toArray, List.size_toArray, hlx, hly]
    cases hy' : ys.drop i with
    | nil =>
      have := List.drop_eq_nil_iff.mp hy'
      rw [hy'] at h
      rw [decide_eq_false (by omega)]; exact h
    | cons y r =>
      have : i < ys.length := by
        rcases Nat.lt_or_ge i ys.length with h' | h'
        · exact h'
        · rw [List.drop_eq_nil_of_le h'] at hy'; cases hy'
      rw [hy'] at h
      rw [decide_eq_true (by omega)]; exact h
  | succ k ih =>
    intro i hk hi1 hi2 prog w A R s h
    obtain ⟨hp, g, d, tk, os⟩ := s; obtain ⟨hl, hb, h⟩ := h
    wp_walk using wpAny_loadPart' hl, wpAny_loadPart' hb
    have hlt : i < xs.length := by omega
    rcases hx.int_at i with ⟨x, t, ex, ev⟩ | ⟨ex, _⟩
    rotate_left
    · rw [List.getElem?_eq_getElem hlt] at ex; cases ex
    have dx : xs.drop i = x :: xs.drop (i + 1) := by
      obtain ⟨h1, h2⟩ := List.getElem?_eq_some_iff.mp ex
      rw [List.drop_eq_getElem_cons h1, h2]
    have ev' : vs.toArray[((i : Nat) : Int).toNat]? = some (.int x t) := by simpa using ev
    rcases hy.int_at i with ⟨y, u, ey, ew⟩ | ⟨ey, ew⟩
    · have dy : ys.drop i = y :: ys.drop (i + 1) := by
        obtain ⟨h1, h2⟩ := List.getElem?_eq_some_iff.mp ey
        rw [List.drop_eq_getElem_cons h1, h2]
      have ew' : ws.toArray[((i : Nat) : Int).toNat]? = some (.int y u) := by simpa using ew
      have hlt2 : i < ys.length := (List.getElem?_eq_some_iff.mp ey).1
      have hc : ((i : Int) + 1) = ((i + 1 : Nat) : Int) := by push_cast; rfl
      rw [ev', ew']
      rw [dx, dy] at h
      unfold lexlt at h
      refine wpAny_bind (SeqAt.EqAt.int_int x t y u prog w _ _ ?_)
      by_cases hxy : x = y
      · rw [if_pos hxy] at h
        rw [beq_iff_eq.mpr hxy]
        wp_walk
        rw [hc]
        exact ⟨plainId_quiet plain_eq_loop _, codeAny_builtin entry_eq_loop (by
          rw [Around.under_plainId plain_eq_loop _]
          exact ih (i + 1) (by omega) (by omega) (by omega) prog w A R _ ⟨hl, hb, h⟩)⟩
      · rw [if_neg hxy] at h
        rw [show (x == y) = false by simpa using hxy]
        wp_walk using wpAny_loadPart' hl, wpAny_loadPart' hb
        rw [ev', ew']
        show wpAny _ _ (richCompare .Lt (.int x t) (.int y u) >>= fun v => ret v) _ _ _
        refine wpAny_bind (show wpAny _ _ (compareOp .Lt (.int x t) (.int y u)) _ _ _ from lt_int ?_)
        exact wpAny_pure h
    · have ew' : ws.toArray[((i : Nat) : Int).toNat]? = none := by simpa using ew
      rw [ev', ew']
      wp_walk using wpAny_loadPart' hl, wpAny_loadPart' hb
      show R (.ok (.ret (.bool (decide (vs.toArray.size < ws.toArray.size))))) _
      rw [List.size_toArray, List.size_toArray, hlx, hly]
      have hge := List.getElem?_eq_none_iff.mp ey
      have dy : ys.drop i = [] := List.drop_eq_nil_of_le hge
      rw [dx, dy] at h
      rw [decide_eq_false (by omega)]; exact h

theorem list_lt (l b : Addr) (xs ys : List Int) (vs ws : List Value) (hx : VRs (nums xs) vs) (hy : VRs (nums ys) ws) (n n2 : Nat) :
    Meets (Builtin.«list.__lt__» ⟨[.ref l, .ref b], []⟩)
      (fun A R s => s.heap.get? l = some { cls := .type "list", dict := none, data := .seq vs.toArray n, slots := #[] } ∧ s.heap.get? b = some { cls := .type "list", dict := none, data := .seq ws.toArray n2, slots := #[] } ∧ R (.ok (.ret (.bool (lexlt xs ys)))) s) := by
  intro prog w A R s h
  obtain ⟨hp, g, d, tk, os⟩ := s; obtain ⟨hl, hb, h⟩ := h
  have f3 := AutoSeq1.sub_list_list
  wp_walk using wpAny_loadPart' hl, wpAny_loadPart' hb
  exact ⟨plainId_quiet plain_eq_loop _, codeAny_builtin entry_eq_loop (by
    rw [Around.under_plainId plain_eq_loop _]
    exact lt_loop l b xs ys vs ws hx hy n n2 _ 0 rfl (Nat.zero_le _) (Nat.zero_le _) prog w A R _ ⟨hl, hb, by simpa using h⟩)⟩

section
variable {prog : Program} {w : World} {A : Around} {E : Value → Shared → Prop} {s : Shared}
theorem keyLt_list {l b : Addr} {xs ys : List Int} {vs ws : List Value} {n n2 : Nat} {Q : Bool → Shared → Prop} (hu : A.units < cLine) (ho : s.heap.get? l = some (listO vs n)) (hb : s.heap.get? b = some (listO ws n2)) (hx : VRs (nums xs) vs) (hy : VRs (nums ys) ws)
    (h : Q (lexlt xs ys) s) : wpAny (model prog w) A (keyLt' oneType' (.ref l) (.ref b)) Q E s := by
  rw [keyLt'_oneType, oneLt'_eq]
  simp only [if_true]
  refine wpAny_bind (wpAny_cRoomFor hu ?_)
  refine wpAny_bind (wpAny_callSpecialIfBound?_slot (T := "list") ⟨_, ho, rfl⟩ F.slot_list_lt (call_meets F.slot_list_lt ⟨_, ho, rfl⟩ F.entry_list_lt (F.args_list_lt_2 _ _) (list_lt l b xs ys vs ws hx hy n n2) ⟨ho, hb, ?_⟩))
  exact wpAny_truthy_bool h
end
end Mine

namespace Mine

/-! ## the sorting, plainly -/
def kwp {α : Type} (lt : Nat → Nat → Bool) (n : Nat) : KasT α → (α → Prop) → Prop
  | .ret a, Q => Q a
  | .ask i j k, Q => i < n ∧ j < n ∧ kwp lt n (k (lt i j)) Q
theorem kwp_bind {α β : Type} {lt : Nat → Nat → Bool} {n : Nat} {f : α → KasT β} {Q : β → Prop} : ∀ {t : KasT α}, kwp lt n t (fun a => kwp lt n (f a) Q) → kwp lt n (t.bind f) Q
  | .ret a, h => h
  | .ask i j k, h => ⟨h.1, h.2.1, kwp_bind h.2.2⟩
theorem kwp_wp {α : Type} {lt : Nat → Nat → Bool} {n : Nat} {cmp : Nat → Nat → (Bool → Shared → Prop) → Shared → Prop} {Q : α → Shared → Prop} {s : Shared} (hc : ∀ i j C, i < n → j < n → C (lt i j) s → cmp i j C s) :
    ∀ {t : KasT α}, kwp lt n t (fun a => Q a s) → t.kasWp cmp Q s
  | .ret a, h => h
  | .ask i j k, h => hc i j _ h.1 h.2.1 (kwp_wp hc h.2.2)

structure LtOk (lt : Nat → Nat → Bool) (n : Nat) : Prop where
  asym : ∀ a b, lt a b = true → lt b a = false
  trans : ∀ a b c, lt a b = true → lt b c = true → lt a c = true
  tot : ∀ a b, a < n → b < n → a ≠ b → lt a b = false → lt b a = true

abbrev at_ (p : Array Nat) (i : Nat) : Nat := p.getD i 0
def PermN (p : Array Nat) (n : Nat) : Prop := p.toList.Perm (List.range n)
theorem PermN.size {p : Array Nat} {n : Nat} (h : PermN p n) : p.size = n := by have := h.length_eq; simpa using this
theorem PermN.lt {p : Array Nat} {n : Nat} (h : PermN p n) {i : Nat} (hi : i < n) : at_ p i < n := by
  have hs := h.size
  have : p[i]'(by omega) ∈ p.toList := by simp
  have := List.mem_range.mp (h.mem_iff.mp this)
  simpa [Array.getD, hs, hi] using this
theorem PermN.inj {p : Array Nat} {n : Nat} (h : PermN p n) {i j : Nat} (hi : i < n) (hj : j < n) (hij : i ≠ j) : at_ p i ≠ at_ p j := by
  have hs := h.size
  have hnd : p.toList.Nodup := h.nodup_iff.mpr List.nodup_range
  intro e
  have e1 : p.toList[i]? = some (at_ p i) := by simp [Array.getD, hs, hi]
  have e2 : p.toList[j]? = some (at_ p j) := by simp [Array.getD, hs, hj]
  rw [e] at e1
  exact hij (nodup_get hnd e1 e2)
def Asc (lt : Nat → Nat → Bool) (p : Array Nat) (k : Nat) : Prop := ∀ i j, i < j → j < k → lt (at_ p i) (at_ p j) = true

section
variable {lt : Nat → Nat → Bool} {n : Nat} (O : LtOk lt n)
include O
theorem asc_of_steps {p : Array Nat} {k : Nat} (h : ∀ i, i + 1 < k → lt (at_ p i) (at_ p (i + 1)) = true) : Asc lt p k := by
  intro i j hij
  induction j with
  | zero => omega
  | succ j ih =>
    intro hj
    by_cases e : i = j
    · subst e; exact h i hj
    · exact O.trans _ _ _ (ih (by omega) (by omega)) (h j hj)
theorem kas_asc_ok {p : Array Nat} (hp : PermN p n) {Q : Nat → Prop} : ∀ (f m : Nat), 1 ≤ m → m + f ≤ n →
    (∀ m', m ≤ m' → m' ≤ m + f → (∀ k, m ≤ k → k < m' → lt (at_ p (k - 1)) (at_ p k) = true) → (m' < m + f → lt (at_ p m') (at_ p (m' - 1)) = true) → Q m') → kwp lt n (kas_asc p f m) Q
  | 0, m, h1, h2, hQ => hQ m (Nat.le_refl _) (Nat.le_refl _) (by intro k; omega) (by omega)
  | f + 1, m, h1, h2, hQ => by
    refine ⟨hp.lt (by omega), hp.lt (by omega), ?_⟩
    show kwp lt n (if lt (at_ p m) (at_ p (m - 1)) = true then _ else _) Q
    by_cases hc : lt (at_ p m) (at_ p (m - 1)) = true
    · rw [if_pos hc]
      exact hQ m (Nat.le_refl _) (by omega) (by intro k; omega) fun _ => hc
    · rw [if_neg hc]
      refine kas_asc_ok hp f (m + 1) (by omega) (by omega) fun m' a1 a2 a3 a4 => hQ m' (by omega) (by omega) (fun k b1 b2 => ?_) (fun h => a4 (by omega))
      by_cases e : k = m
      · subst e
        exact O.tot _ _ (hp.lt (by omega)) (hp.lt (by omega)) (hp.inj (by omega) (by omega) (by omega)) (by simpa using hc)
      · exact a3 k (by omega) b2
theorem kas_desc_ok {p : Array Nat} (hp : PermN p n) {Q : Array Nat × Nat × Nat → Prop} : ∀ (f m : Nat), 1 ≤ m → m + f ≤ n →
    (∀ m', m ≤ m' → m' ≤ m + f → (∀ k, m ≤ k → k < m' → lt (at_ p k) (at_ p (k - 1)) = true) → Q (p, m', 0)) → kwp lt n (kas_desc f p m 0) Q
  | 0, m, h1, h2, hQ => hQ m (Nat.le_refl _) (Nat.le_refl _) (by intro k; omega)
  | f + 1, m, h1, h2, hQ => by
    refine ⟨hp.lt (by omega), hp.lt (by omega), ?_⟩
    show kwp lt n (if lt (at_ p m) (at_ p (m - 1)) = true then _ else _) Q
    by_cases hc : lt (at_ p m) (at_ p (m - 1)) = true
    · rw [if_pos hc, if_neg (by omega)]
      refine kas_desc_ok hp f (m + 1) (by omega) (by omega) fun m' a1 a2 a3 => hQ m' (by omega) (by omega) fun k b1 b2 => ?_
      by_cases e : k = m
      · subst e; exact hc
      · exact a3 k (by omega) b2
    · rw [if_neg hc]
      have hd := O.tot _ _ (hp.lt (i := m) (by omega)) (hp.lt (i := m - 1) (by omega)) (hp.inj (by omega) (by omega) (by omega)) (by simpa using hc)
      refine ⟨hp.lt (by omega), hp.lt (by omega), ?_⟩
      show kwp lt n (if lt (at_ p (m - 1)) (at_ p m) = true then _ else _) Q
      rw [if_pos hd]
      exact hQ m (Nat.le_refl _) (by omega) (by intro k; omega)
end
theorem rev_perm {p : Array Nat} {n m : Nat} (hp : PermN p n) : PermN (kas_rev p 0 m) n := (Array.perm_iff_toList_perm.mp (mirror_perm _ _ _ _)).trans hp
theorem rev_at {p : Array Nat} {n m : Nat} (hp : PermN p n) (hm : m ≤ n) (k : Nat) : at_ (kas_rev p 0 m) k = if k < m then at_ p (m - 1 - k) else at_ p k := by
  have hs := hp.size
  have e := getElem?_mirror_all (xs := p) (i := 0) (j := m) (by omega) k
  have key : ∀ (q : Array Nat) (i : Nat), at_ q i = (q[i]?).getD 0 := fun q i => by simp [Array.getD_eq_getD_getElem?]
  rw [key, key, key]
  show (mirror p 0 m ((m - 0) / 2))[k]?.getD 0 = _
  rw [e]
  by_cases h : k < m
  · rw [if_pos ⟨Nat.zero_le _, h⟩, if_pos h]; congr 2; omega
  · rw [if_neg (fun h' => h h'.2), if_neg h]
section
variable {lt : Nat → Nat → Bool} {n : Nat} (O : LtOk lt n)
include O
theorem kas_tail3_ok {p : Array Nat} (hp : PermN p n) {m : Nat} (h1 : 1 ≤ m) (hm : m ≤ n) (hd : ∀ k, 1 ≤ k → k < m → lt (at_ p k) (at_ p (k - 1)) = true) {Q : Nat × Array Nat → Prop}
    (hQ : ∀ m' q, 1 ≤ m' → m' ≤ n → PermN q n → Asc lt q m' → Q (m', q)) : kwp lt n (kas_tail3 m n p) Q := by
  have hr := rev_perm (m := m) hp
  refine kwp_bind (kas_asc_ok O hr (n - m) m h1 (by omega) fun m' a1 a2 a3 a4 => ?_)
  refine hQ m' _ (by omega) (by omega) hr (asc_of_steps O fun i hi => ?_)
  by_cases h : i + 1 < m
  · rw [rev_at hp hm, rev_at hp hm, if_pos (by omega), if_pos h]
    have := hd (m - 1 - i) (by omega) (by omega)
    rwa [show m - 1 - i - 1 = m - 1 - (i + 1) by omega] at this
  · have := a3 (i + 1) (by omega) hi
    rwa [show i + 1 - 1 = i by omega] at this
theorem kas_count_ok {p : Array Nat} (hp : PermN p n) (h1 : 1 ≤ n) {Q : Nat × Array Nat → Prop} (hQ : ∀ m' q, 1 ≤ m' → m' ≤ n → PermN q n → Asc lt q m' → Q (m', q)) : kwp lt n (kas_count n p) Q := by
  refine kwp_bind (kas_asc_ok O hp (n - 1) 1 (Nat.le_refl _) (by omega) fun m a1 a2 a3 a4 => ?_)
  have hasc : Asc lt p m := asc_of_steps O fun i hi => by
    have := a3 (i + 1) (by omega) hi
    rwa [show i + 1 - 1 = i by omega] at this
  show kwp lt n (if (m == n) = true then _ else _) Q
  by_cases hmn : m = n
  · rw [if_pos (by simpa using hmn)]
    exact hQ m p a1 (by omega) hp hasc
  · rw [if_neg (by simpa using hmn)]
    by_cases hm1 : m > 1
    · rw [if_pos hm1]
      refine ⟨hp.lt (by omega), hp.lt (by omega), ?_⟩
      show kwp lt n (if lt (at_ p 0) (at_ p (m - 1)) = true then _ else _) Q
      rw [if_pos (hasc 0 (m - 1) (by omega) (by omega))]
      exact hQ m p a1 (by omega) hp hasc
    · rw [if_neg hm1]
      have hm : m = 1 := by omega
      subst hm
      have h10 := a4 (by omega)
      refine kwp_bind (kas_desc_ok O hp (n - (1 + 1)) (1 + 1) (by omega) (by omega) fun m' b1 b2 b3 => ?_)
      show kwp lt n (if 0 > 0 then _ else kas_tail3 m' n p) Q
      rw [if_neg (by omega)]
      refine kas_tail3_ok O hp (by omega) (by omega) (fun k c1 c2 => ?_) hQ
      by_cases e : k = 1
      · subst e; exact h10
      · exact b3 k (by omega) c2
theorem kas_place_ok {p : Array Nat} (hp : PermN p n) {k : Nat} (hk : k < n) (ha : Asc lt p k) {Q : Nat → Prop} (hQ : ∀ l, l ≤ k → (∀ i, i < l → lt (at_ p i) (at_ p k) = true) → (∀ i, l ≤ i → i < k → lt (at_ p k) (at_ p i) = true) → Q l) :
    ∀ (f l r : Nat), l ≤ r → r ≤ k → r - l ≤ f → (∀ i, i < l → lt (at_ p i) (at_ p k) = true) → (∀ i, r ≤ i → i < k → lt (at_ p k) (at_ p i) = true) → kwp lt n (kas_place p k f l r) Q
  | 0, l, r, h1, h2, h3, h4, h5 => by
    have : l = r := by omega
    subst this
    exact hQ l h2 h4 h5
  | f + 1, l, r, h1, h2, h3, h4, h5 => by
    show kwp lt n (if l ≥ r then _ else _) Q
    by_cases hlr : l ≥ r
    · rw [if_pos hlr]
      have : l = r := by omega
      subst this
      exact hQ l h2 h4 h5
    · rw [if_neg hlr]
      have hm1 : (l + r) / 2 < r := by omega
      have hm2 : l ≤ (l + r) / 2 := by omega
      refine ⟨hp.lt hk, hp.lt (by omega), ?_⟩
      show kwp lt n (if lt (at_ p k) (at_ p ((l + r) / 2)) = true then _ else _) Q
      generalize hmid : (l + r) / 2 = mid at hm1 hm2 ⊢
      by_cases hc : lt (at_ p k) (at_ p mid) = true
      · rw [if_pos hc]
        refine kas_place_ok hp hk ha hQ f l mid hm2 (by omega) (by omega) h4 fun i b1 b2 => ?_
        by_cases e : i = mid
        · subst e; exact hc
        · exact O.trans _ _ _ hc (ha mid i (by omega) b2)
      · rw [if_neg hc]
        have hd := O.tot _ _ (hp.lt hk) (hp.lt (i := mid) (by omega)) (hp.inj hk (by omega) (by omega)) (by simpa using hc)
        refine kas_place_ok hp hk ha hQ f (mid + 1) r (by omega) h2 (by omega) (fun i b1 => ?_) h5
        by_cases e : i = mid
        · subst e; exact hd
        · exact O.trans _ _ _ (ha i mid (by omega) (by omega)) hd
end
theorem bub_at {p : Array Nat} {n k d : Nat} (hp : PermN p n) (hk : k < n) (hd : d ≤ k) (j : Nat) : at_ (bubble p k d) j = if j = k - d then at_ p k else if k - d < j ∧ j ≤ k then at_ p (j - 1) else at_ p j := by
  have hs := hp.size
  have e := getElem?_bubble (xs := p) (src := k) (by omega) d hd j
  have key : ∀ (q : Array Nat) (i : Nat), at_ q i = (q[i]?).getD 0 := fun q i => by simp [Array.getD_eq_getD_getElem?]
  rw [key, key, key, key, e]
  by_cases h1 : j = k - d
  · rw [if_pos h1, if_pos h1]
  · rw [if_neg h1, if_neg h1]
    by_cases h2 : k - d < j ∧ j ≤ k
    · rw [if_pos h2, if_pos h2]
    · rw [if_neg h2, if_neg h2]
section
variable {lt : Nat → Nat → Bool} {n : Nat} (O : LtOk lt n)
include O
theorem kas_bin_ok {Q : Array Nat → Prop} : ∀ (f : Nat) (p : Array Nat) (k : Nat), PermN p n → k + f ≤ n → Asc lt p k → (∀ q, PermN q n → Asc lt q (k + f) → Q q) → kwp lt n (kas_bin f p k) Q
  | 0, p, k, hp, hk, ha, hQ => hQ p hp ha
  | f + 1, p, k, hp, hk, ha, hQ => by
    refine kwp_bind (kas_place_ok O hp (by omega) ha (fun l b1 b2 b3 => ?_) k 0 k (Nat.zero_le _) (Nat.le_refl _) (by omega) (by intro i; omega) (by intro i; omega))
    have hb : PermN (bubble p k (k - l)) n := (Array.perm_iff_toList_perm.mp (bubble_perm _ _ _)).trans hp
    have hat := bub_at hp (k := k) (d := k - l) (by omega) (by omega)
    rw [show k - (k - l) = l by omega] at hat
    refine kas_bin_ok f _ (k + 1) hb (by omega) (fun i j hij hj => ?_) (fun q h1 h2 => hQ q h1 (by rwa [show k + (f + 1) = k + 1 + f by omega]))
    rw [hat i, hat j]
    by_cases hi : i = l
    · rw [if_pos hi, if_neg (by omega), if_pos ⟨by omega, by omega⟩]
      exact b3 (j - 1) (by omega) (by omega)
    · rw [if_neg hi]
      by_cases hi2 : l < i ∧ i ≤ k
      · rw [if_pos hi2, if_neg (by omega), if_pos ⟨by omega, by omega⟩]
        exact ha (i - 1) (j - 1) (by omega) (by omega)
      · rw [if_neg hi2]
        by_cases hj1 : j = l
        · rw [if_pos hj1]; exact b2 i (by omega)
        · rw [if_neg hj1]
          by_cases hj2 : l < j ∧ j ≤ k
          · rw [if_pos hj2]; exact ha i (j - 1) (by omega) (by omega)
          · rw [if_neg hj2]; exact ha i j hij (by omega)
theorem kas_sort_ok (h1 : 1 ≤ n) {Q : Array Nat → Prop} (hQ : ∀ q, PermN q n → Asc lt q n → Q q) : kwp lt n (kas_sort n) Q := by
  refine kwp_bind (kas_count_ok O (p := List.toArray (List.range n)) (List.Perm.refl _) h1 fun m q a1 a2 a3 a4 => ?_)
  show kwp lt n (if m < n then kas_bin (n - max m 1) q (max m 1) else .ret q) Q
  have hmx : max m 1 = m := by omega
  rw [hmx]
  by_cases h : m < n
  · rw [if_pos h]
    exact kas_bin_ok O (n - m) q m a3 (by omega) a4 fun q' b1 b2 => hQ q' b1 (by rwa [show m + (n - m) = n by omega] at b2)
  · rw [if_neg h]
    have : m = n := by omega
    subst this
    exact hQ q a3 a4
end
end Mine

namespace Mine

def hp0 : Heap := { objs := #[] }
theorem hp0_none (a : Addr) : hp0.get? a = none := by
  cases e : hp0.get? a with
  | none => rfl
  | some o => exact absurd (Heap.lt_size e) (Nat.not_lt_zero _)
def allNews (h : Heap) (L : Addr) : List (Addr × Obj) := (List.range h.objs.size).filterMap fun a => if a = L then none else (h.get? a).map fun o => (a, o)
theorem mem_allNews {h : Heap} {L a : Addr} {o : Obj} : (a, o) ∈ allNews h L ↔ a ≠ L ∧ h.get? a = some o := by
  unfold allNews
  rw [List.mem_filterMap]
  constructor
  · rintro ⟨b, hb, e⟩
    split at e
    · cases e
    · next hne =>
      obtain ⟨o', ho', e'⟩ := Option.map_eq_some_iff.mp e
      cases e'
      exact ⟨hne, ho'⟩
  · rintro ⟨h1, h2⟩
    exact ⟨a, List.mem_range.mpr (Heap.lt_size h2), by rw [if_neg h1, h2]; rfl⟩

theorem lexlt_asym : ∀ xs ys : List Int, lexlt xs ys = true → lexlt ys xs = false
  | [], [], h => by cases h
  | [], _ :: _, _ => rfl
  | _ :: _, [], h => by cases h
  | x :: xs, y :: ys, h => by
    unfold lexlt at h ⊢
    by_cases e : x = y
    · rw [if_pos e] at h; rw [if_pos e.symm]; exact lexlt_asym xs ys h
    · rw [if_neg e] at h; rw [if_neg (Ne.symm e)]
      have : x < y := by simpa using h
      simp; omega
theorem lexlt_trans : ∀ xs ys zs : List Int, lexlt xs ys = true → lexlt ys zs = true → lexlt xs zs = true
  | [], [], _, h, _ => by cases h
  | [], _ :: _, [], _, k => by cases k
  | [], _ :: _, _ :: _, _, _ => rfl
  | _ :: _, [], _, h, _ => by cases h
  | _ :: _, _ :: _, [], _, k => by cases k
  | x :: xs, y :: ys, z :: zs, h, k => by
    unfold lexlt at h k ⊢
    by_cases e : x = y
    · rw [if_pos e] at h
      by_cases e' : y = z
      · rw [if_pos e'] at k; rw [if_pos (e.trans e')]; exact lexlt_trans xs ys zs h k
      · rw [if_neg e'] at k; rw [if_neg (by rw [e]; exact e'), e]; exact k
    · rw [if_neg e] at h
      have h' : x < y := by simpa using h
      by_cases e' : y = z
      · rw [if_neg (by rw [← e']; exact e), ← e']; exact h
      · rw [if_neg e'] at k
        have k' : y < z := by simpa using k
        rw [if_neg (by omega)]; simp; omega
theorem lexlt_tot : ∀ xs ys : List Int, xs ≠ ys → lexlt xs ys = false → lexlt ys xs = true
  | [], [], h, _ => absurd rfl h
  | [], _ :: _, _, h => by cases h
  | _ :: _, [], _, _ => rfl
  | x :: xs, y :: ys, hne, h => by
    unfold lexlt at h ⊢
    by_cases e : x = y
    · rw [if_pos e] at h; rw [if_pos e.symm]; exact lexlt_tot xs ys (fun e' => hne (by rw [e, e'])) h
    · rw [if_neg e] at h; rw [if_neg (Ne.symm e)]
      have : ¬ x < y := by simpa using h
      simp; omega

theorem refs_values : ∀ {as : List Addr} {ws : List Value}, VRs (refs as) ws → ws = as.map Value.ref
  | [], _, .nil => rfl
  | a :: as, _, .cons h1 h2 => by cases h1; rw [refs_values h2]; rfl
theorem vrs_refs : ∀ (as : List Addr), VRs (refs as) (as.map Value.ref)
  | [] => .nil
  | a :: as => .cons (.ref a) (vrs_refs as)

theorem A_sortedL {C : Cx} {E : Value → Shared → Prop} {σ : AS} {l : Addr} {as : List Addr} {cur : Addr → List Int} {Q : PV → AS → Prop} (hl : σ.hp l = some (.list (refs as))) (hat : AtF σ.hp as cur) (h2 : 2 ≤ as.length) (h64 : as.length < 64)
    (hdist : ∀ (i j : Nat) a b, as[i]? = some a → as[j]? = some b → i ≠ j → cur a ≠ cur b)
    (h : ∀ d bs, σ.hp d = none → bs.Perm as → bs.Pairwise (fun a b => lexlt (cur a) (cur b) = true) → Q (.ref d) (σ.pt d (.list (refs bs)))) : ACall C (.builtin "sorted") [.ref l] Q E σ := fun us hus s r => by
  cases hus with
  | cons h1 hn =>
    cases h1; cases hn
    have ok := r.1
    have hu := ok.units
    obtain ⟨m, hm, hx⟩ := r.heap.ns
    obtain ⟨ob, ho, ws, n0, rfl, hv⟩ := r.heap.obj l _ hl
    have hws := refs_values hv
    subst hws
    have hL : l ≠ C.env.locals := (r.heap.free l _ hl).2.1
    have F : Fr hp0 C.env.locals s.heap m := ⟨hm, (fun b o e => by rw [hp0_none] at e; cases e), Nat.zero_le _⟩
    have N : News hp0 C.env.locals s.heap (allNews s.heap C.env.locals) := fun p hp => by
      obtain ⟨q1, q2⟩ := mem_allNews.mp (show (p.1, p.2) ∈ _ from hp)
      exact ⟨q2, q1, hp0_none _⟩
    have hobj : ∀ a ∈ as, ∃ vs n, s.heap.get? a = some (listO vs n) ∧ VRs (nums (cur a)) vs ∧ a ≠ C.env.locals := fun a ha => by
      obtain ⟨ob, ho, vs, n, rfl, hv⟩ := r.heap.obj a _ (hat a ha)
      exact ⟨vs, n, ho, hv, (r.heap.free a _ (hat a ha)).2.1⟩
    have keepN : ∀ {h' : Heap} {news : List (Addr × Obj)}, News hp0 C.env.locals h' news → (∀ p ∈ allNews s.heap C.env.locals, p ∈ news) → ∀ a o, a ≠ C.env.locals → s.heap.get? a = some o → h'.get? a = some o :=
      fun N' hsub a o ha ho => N'.get (hsub _ (mem_allNews.mpr ⟨ha, ho⟩))
    have hlen : (as.map Value.ref).length = as.length := List.length_map _
    refine kas_sorted (T := .type "list") F N ⟨_, ho, rfl, n0, rfl⟩ (by rw [hlen]; exact h2) (by rw [hlen]; exact h64) ?_ (by decide) ?_
    · intro h' F' N' v hv'
      obtain ⟨a, ha, rfl⟩ := List.mem_map.mp hv'
      obtain ⟨vs, n, hoa, _, haL⟩ := hobj a ha
      intro A' Q' E' s' hk hq
      exact wpAny_typeOf (T := "list") ⟨_, hk _ _ (keepN N' (fun p hp => hp) a _ haL hoa), rfl⟩ hq
    · intro D e1 h' F' N' hlt
      rw [hlen]
      have O : LtOk (fun i j => lexlt (cur (as.getD i 0)) (cur (as.getD j 0))) as.length := {
        asym := fun a b => lexlt_asym _ _
        trans := fun a b c => lexlt_trans _ _ _
        tot := fun a b ha hb hab => lexlt_tot _ _ (hdist a b _ _ (by rw [List.getD_eq_getElem?_getD, List.getElem?_eq_getElem ha]; rfl) (by rw [List.getD_eq_getElem?_getD, List.getElem?_eq_getElem hb]; rfl) hab) }
      refine kwp_wp (lt := fun i j => lexlt (cur (as.getD i 0)) (cur (as.getD j 0))) (n := as.length) (fun i j C' hi hj hC => ?_) (kas_sort_ok O (by omega) fun q hq hasc => ?_)
      · have gi : (as.map Value.ref).getD i Value.none = .ref (as.getD i 0) := by rw [List.getD_eq_getElem?_getD, List.getD_eq_getElem?_getD, List.getElem?_map, List.getElem?_eq_getElem hi]; rfl
        have gj : (as.map Value.ref).getD j Value.none = .ref (as.getD j 0) := by rw [List.getD_eq_getElem?_getD, List.getD_eq_getElem?_getD, List.getElem?_map, List.getElem?_eq_getElem hj]; rfl
        have mi : as.getD i 0 ∈ as := by rw [List.getD_eq_getElem?_getD, List.getElem?_eq_getElem hi]; exact List.getElem_mem hi
        have mj : as.getD j 0 ∈ as := by rw [List.getD_eq_getElem?_getD, List.getElem?_eq_getElem hj]; exact List.getElem_mem hj
        obtain ⟨vs, n, o1, v1, L1⟩ := hobj _ mi
        obtain ⟨ws, k, o2, v2, L2⟩ := hobj _ mj
        unfold kas_ask
        rw [gi, gj]
        refine keyLt_list ?_ (keepN N' (fun p hp => .tail _ hp) _ _ L1 o1) (keepN N' (fun p hp => .tail _ hp) _ _ L2 o2) v1 v2 hC
        show C.A.units + 1 + 1 < cLine
        omega
      · have hD := N' (D, _) (.head _)
        refine KasFin.intro F' N' (.head fun p hp => Nat.ne_of_lt (hlt p hp)) fun h'' c F'' N'' => ?_
        have hfresh : s.heap.get? D = none := by
          cases e : s.heap.get? D with
          | none => rfl
          | some o => exact absurd (hlt _ (mem_allNews.mpr ⟨hD.2.1, e⟩)) (Nat.lt_irrefl _)
        have fr := r.heap.fresh hfresh
        have hout : (q.toList.map fun i => (as.map Value.ref).getD i Value.none) = (q.toList.map fun i => as.getD i 0).map Value.ref := by
          rw [List.map_map]
          refine List.map_congr_left fun i hi => ?_
          have hil : i < as.length := List.mem_range.mp (hq.mem_iff.mp hi)
          rw [List.getD_eq_getElem?_getD, List.getElem?_map, List.getElem?_eq_getElem hil]
          simp [hil]
        have kp := keepN N'' (fun p hp => .tail _ hp)
        refine ⟨.ref D, σ.pt D (.list (refs (q.toList.map fun i => as.getD i 0))), .ref D, ?_, h D _ fr.2.2.2 ?_ ?_⟩
        · refine r.toH ?_
          exact {
            keep := fun b o e => kp b o (by rintro rfl; rw [ok.own] at e; cases e) (r.heap.keep b o e)
            ns := ⟨m, F''.ns, hx⟩
            cell := fun x v e k => let ⟨c, u, hc, ⟨o, ho, hd⟩, hv⟩ := r.heap.cell x v e k; ⟨c, u, hc, ⟨o, kp _ _ (ok.cellne x c hc) ho, hd⟩, hv⟩
            kinds := r.heap.kinds
            cells := fun x c e => let ⟨v, o, ho, hd⟩ := r.heap.cells x c e; ⟨v, o, kp _ _ (ok.cellne x c e) ho, hd⟩
            obj := fun b p e => by
              unfold AS.pt upd at e
              dsimp only at e
              split at e
              · next hb =>
                subst hb; cases e
                exact ⟨_, (N'' (b, _) (.head _)).1, _, c, rfl, by rw [hout]; exact vrs_refs _⟩
              · exact let ⟨ob, ho, hr⟩ := r.heap.obj b p e; ⟨ob, kp _ _ (r.heap.free b p e).2.1 ho, hr⟩
            free := fun b p e => by
              unfold AS.pt upd at e
              dsimp only at e
              split at e
              · next hb => subst hb; exact ⟨fr.1, fr.2.1, fr.2.2.1⟩
              · exact r.heap.free b p e }
        · have : (q.toList.map fun i => as.getD i 0).Perm ((List.range as.length).map fun i => as.getD i 0) := List.Perm.map _ hq
          refine this.trans (List.Perm.of_eq ?_)
          refine List.ext_getElem? fun i => ?_
          rw [List.getElem?_map]
          by_cases hi : i < as.length
          · rw [List.getElem?_range hi, List.getElem?_eq_getElem hi]; simp [hi]
          · rw [List.getElem?_eq_none (by simpa using hi), List.getElem?_eq_none (by simpa using hi)]; rfl
        · rw [List.pairwise_map, List.pairwise_iff_getElem]
          intro i j hi hj hij
          have hs := hq.size
          have := hasc i j hij (by simpa [hs] using hj)
          have e1 : at_ q i = q.toList[i] := by simp at hi; simp [at_, hi]
          have e2 : at_ q j = q.toList[j] := by simp at hj; simp [at_, hj]
          rw [e1, e2] at this
          exact this
end Mine

namespace Mine
open SetTable

theorem entry_set_iter : entryFor table "set.__iter__" = some Builtin.«frozenset.__iter__» := entryFor_alias (id' := "frozenset.__iter__") (by kernel_rfl) rfl (by decide +kernel) (by kernel_rfl)
theorem slot_seti_next : Slot "set_iterator" "__next__" "set_iterator.__next__" :=
  .of (owner := "set_iterator") (n := "__next__") (by rw [typeLookup_type, builtinLookup_eq_fast]; kernel_rfl) (by decide +kernel) (by decide +kernel) (by decide +kernel)
    (by first | exact .inl (by decide +kernel) | exact .inr (by decide +kernel)) (by rw [isSubtype_type]; kernel_rfl)
theorem slot_seti_iter : Slot "set_iterator" "__iter__" "set_iterator.__iter__" :=
  .of (owner := "set_iterator") (n := "__iter__") (by rw [typeLookup_type, builtinLookup_eq_fast]; kernel_rfl) (by decide +kernel) (by decide +kernel) (by decide +kernel)
    (by first | exact .inl (by decide +kernel) | exact .inr (by decide +kernel)) (by rw [isSubtype_type]; kernel_rfl)
theorem entry_seti_next : entryFor table "set_iterator.__next__" = some Builtin.«set_iterator.__next__» := entryFor_of_fast (by kernel_rfl)
theorem args_seti_next (a : Value) : argsOk "set_iterator.__next__" ⟨[a], []⟩ := by unfold argsOk; kernel_rfl

/-- the order in which a set is gone over -/
def ordOf (w : World) (l : Addr) (es : Array (Int × Value)) (ep : Nat) : Array (Int × Value) := if w.params.followText "set-order" then pickOrder (w.params.setOrder l ep) es else es
theorem ordOf_perm (w : World) (l : Addr) (es : Array (Int × Value)) (ep : Nat) : (ordOf w l es ep).toList.Perm es.toList := by
  unfold ordOf
  split
  · exact pickOrder_perm _ _
  · exact List.Perm.refl _

/-- the iterator has given i of the set's elements -/
def SetIt (w : World) (h : Heap) (it l : Addr) (es : Array (Int × Value)) (ep : Nat) (t : SetTable) (i : Nat) : Prop :=
  ∃ o slot : _, h.get? it = some o ∧ o.cls = .type "set_iterator" ∧ o.data = .fields #[rawInt ((slot : Nat) : Int), rawInt (i : Int), .ref l, rawInt (es.size : Int), rawInt (ep : Int)] ∧
    (w.params.followText "set-order" = false → below t.place slot = i)

section
variable {prog : Program} {w : World} {A : Around} {E : Value → Shared → Prop} {s : Shared} {S : Int → Bool} {l it : Addr} {es : Array (Int × Value)} {ep : Nat} {t : SetTable}
theorem wp_pyIter_set {Q : Value → Shared → Prop} (ho : s.heap.get? l = some (setO es ep t)) (he : Elems S es) (ht : Tab es t)
    (h : SetIt w (s.heap.push { cls := .type "set_iterator", data := .fields #[rawInt 0, rawInt 0, .ref l, rawInt (es.size : Int), rawInt (ep : Int)] }) s.heap.objs.size l es ep t 0 →
      Q (.ref s.heap.objs.size) { s with heap := s.heap.push { cls := .type "set_iterator", data := .fields #[rawInt 0, rawInt 0, .ref l, rawInt (es.size : Int), rawInt (ep : Int)] } }) :
    wpAny (model prog w) A (pyIter (.ref l)) Q E s := by
  have hf := ht.fits he
  refine wpAny_pyIter_slot (setO_type ho) F.slot_set_iter (wpAny_call_entry F.slot_set_iter (setO_type ho) entry_set_iter ?_ (F.args_set_iter_1 _))
  unfold Builtin.«frozenset.__iter__»
  refine wpAny_bind (m := Builtin.Frozenset.slot0 _ _) (wpAny_pure ?_)
  refine wpAny_bind (wp_sizeOf ho hf ?_)
  refine wpAny_bind ?_
  unfold setDrawn
  refine wpAny_bind (wp_setState ho he ht ?_)
  dsimp only
  refine wpAny_bind (wp_setsByText ?_)
  refine wpAny_pure ?_
  show wpAny _ _ (if (!w.params.followText "set-order" && (!t.plain && decide (es.size > 1))) = true then _ else _) _ _ _
  rw [ht.plain, if_neg (by simp)]
  refine wpAny_bind (wpAny_pure ?_)
  refine wpAny_bind ?_
  unfold setEpoch
  refine wpAny_bind (wp_setState ho he ht (wpAny_pure ?_))
  refine wpAny_bind (wpAny_newObj_type (wpAny_pure ⟨_, rfl, "set_iterator", _, ⟨_, Heap.get?_push_size _ rfl, rfl⟩, slot_seti_next.lookup, ?_⟩))
  refine h ⟨_, 0, Heap.get?_push_size _ rfl, rfl, rfl, fun _ => ?_⟩
  rw [below_eq ht.rising]
  cases hp : t.place.toList with
  | nil => rfl
  | cons x r => exact posOf_cons_ge (by omega)

theorem posOf_next {xs : List Nat} (hs : xs.Pairwise (· < ·)) {i j : Nat} (hj : xs[i]? = some j) : posOf xs (j + 1) = i + 1 := by
  induction xs generalizing i with
  | nil => simp at hj
  | cons x xs ih =>
    rw [List.pairwise_cons] at hs
    cases i with
    | zero =>
      simp at hj; subst hj
      rw [posOf_cons_lt (by omega)]
      cases xs with
      | nil => rfl
      | cons y r => rw [posOf_cons_ge (by have := hs.1 y (.head _); omega)]
    | succ i =>
      simp at hj
      have hm := List.mem_of_getElem? hj
      have := hs.1 j hm
      rw [posOf_cons_lt (by omega), ih hs.2 hj]

theorem wp_setNext {i slot : Nat} {Q : Option (Value × Nat) → Shared → Prop} (ho : s.heap.get? l = some (setO es ep t)) (he : Elems S es) (ht : Tab es t) (hl : t.led = ledOf w) (hb : w.params.followText "set-order" = false → below t.place slot = i)
    (h1 : ∀ k v slot', (ordOf w l es ep)[i]? = some (k, v) → (w.params.followText "set-order" = false → below t.place slot' = i + 1) → Q (some (v, slot')) s) (h2 : (ordOf w l es ep)[i]? = none → Q none s) :
    wpAny (model prog w) A (setNext l slot i ep) Q E s := by
  unfold setNext
  refine wpAny_bind (wp_setState ho he ht ?_)
  dsimp only
  refine wpAny_bind (wp_setsByText ?_)
  cases hbt : w.params.followText "set-order" with
  | true =>
    rw [if_pos rfl, if_neg (by simp)]
    unfold setWalk
    refine wpAny_bind (wpAny_bind (wp_setState ho he ht ?_))
    dsimp only
    refine wpAny_bind (wp_setsByText ?_)
    rw [hbt, if_pos rfl]
    refine wpAny_bind (wpAny_askSetting (wpAny_pure (wpAny_pure ?_)))
    have e : ordOf w l es ep = pickOrder (w.params.setOrder l ep) es := by unfold ordOf; rw [hbt, if_pos rfl]
    rw [e] at h1 h2
    show Q (Option.map (fun e => (e.2, slot)) (pickOrder (w.params.setOrder l ep) es)[i]?) s
    cases hx : (pickOrder (w.params.setOrder l ep) es)[i]? with
    | none => exact h2 hx
    | some kv => exact h1 kv.1 kv.2 slot hx (fun h => by rw [hbt] at h; cases h)
  | false =>
    have hl' : t.led = true := by rw [hl]; unfold ledOf; rw [hbt]; rfl
    rw [if_neg (by decide)]
    show wpAny _ _ (if (!t.plain && decide (es.size > 1)) = true then _ else _) _ _ _
    rw [ht.plain, if_neg (by simp)]
    refine wpAny_bind ?_
    show wpAny _ _ (if (!t.led && !es.isEmpty) = true then _ else _) _ _ _
    rw [hl', if_neg (by simp)]
    refine wpAny_pure (wpAny_pure ?_)
    have e : ordOf w l es ep = es := by unfold ordOf; rw [hbt, if_neg (by decide)]
    rw [e] at h1 h2
    rw [hb hbt]
    have hsz := ht.size
    by_cases hi : i < es.size
    · have ex : es[i]? = some es[i] := Array.getElem?_eq_getElem hi
      have ep' : t.place[i]? = some (t.place[i]'(by omega)) := Array.getElem?_eq_getElem (by omega)
      rw [ex, ep']
      refine h1 es[i].1 es[i].2 _ ex fun _ => ?_
      rw [below_eq ht.rising]
      exact posOf_next ht.rising (by simp)
    · have ex : es[i]? = none := Array.getElem?_eq_none (by omega)
      rw [ex]
      exact h2 ex

theorem SetIt.typeIs {i : Nat} (x : SetIt w s.heap it l es ep t i) : s.TypeIs (.ref it) "set_iterator" := let ⟨o, _, ho, hc, _⟩ := x; ⟨o, ho, hc⟩
theorem wp_pyNext_set_item {i : Nat} {k : Int} {v : Value} {Q : Option Value → Shared → Prop} (hit : SetIt w s.heap it l es ep t i) (ho : s.heap.get? l = some (setO es ep t)) (he : Elems S es) (ht : Tab es t) (hl : t.led = ledOf w)
    (hx : (ordOf w l es ep)[i]? = some (k, v)) (hQ : ∀ h', SetIt w h' it l es ep t (i + 1) → Heap.SameBut it s.heap h' → Q (some v) { s with heap := h' }) : wpAny (model prog w) A (pyNext (.ref it)) Q E s := by
  obtain ⟨o, slot, ho', hc, hd, hb⟩ := id hit
  unfold pyNext
  refine wpAny_bind (wpAny_attempt (wpAny_callSpecial?_slot (name := Str.ofString "__next__") hit.typeIs slot_seti_next (wpAny_call_entry slot_seti_next hit.typeIs entry_seti_next ?_ (args_seti_next _))))
  unfold Builtin.«set_iterator.__next__»
  refine wpAny_bind (wpAny_pure ?_)
  refine wpAny_bind (wpAny_fieldsOf ho' hd ?_)
  show wpAny _ _ (setEntries l >>= _) _ _ s
  refine wpAny_bind (wp_setEntries ho he ht ?_)
  rw [if_neg (by simp)]
  show wpAny _ _ (setNext l ((slot : Nat) : Int).toNat ((i : Nat) : Int).toNat ((ep : Nat) : Int).toNat >>= _) _ _ s
  rw [Int.toNat_natCast, Int.toNat_natCast, Int.toNat_natCast]
  refine wpAny_bind (wp_setNext ho he ht hl hb (fun k' v' slot' hx' hb' => ?_) fun hx' => by rw [hx] at hx'; cases hx')
  rw [hx] at hx'
  cases hx'
  dsimp only
  refine wpAny_bind (wpAny_setField ho' hd (by simp) ?_)
  have hd1 : (o.mapFields (·.setIfInBounds 0 (rawInt ((slot' : Nat) : Int)))).data = .fields #[rawInt ((slot' : Nat) : Int), rawInt (i : Int), .ref l, rawInt (es.size : Int), rawInt (ep : Int)] := by rw [Obj.data_mapFields hd]; simp
  have ho1 : (s.heap.update it (Obj.mapFields (·.setIfInBounds 0 (rawInt ((slot' : Nat) : Int))))).get? it = some (o.mapFields (·.setIfInBounds 0 (rawInt ((slot' : Nat) : Int)))) := Heap.get?_update_self _ ho' (Obj.isFreed_of_fields (Obj.data_mapFields hd _))
  refine wpAny_bind (wpAny_setField ho1 hd1 (by simp) ?_)
  have hd2 := Obj.data_mapFields hd1 (·.setIfInBounds 1 (rawInt ((i : Int) + 1)))
  have ho2 := Heap.get?_update_self (Obj.mapFields (·.setIfInBounds 1 (rawInt ((i : Int) + 1)))) ho1 (Obj.isFreed_of_fields hd2)
  refine wpAny_pure ⟨_, rfl, wpAny_pure (hQ _ ⟨_, slot', ho2, ?_, ?_, hb'⟩ ((Heap.SameBut.update ..).trans (Heap.SameBut.update ..)))⟩
  · exact (Obj.cls_mapFields ..).trans ((Obj.cls_mapFields ..).trans hc)
  · rw [hd2]; simp
theorem wp_pyNext_set_end {i : Nat} {Q : Option Value → Shared → Prop} (hh : A.handled = none) (hit : SetIt w s.heap it l es ep t i) (ho : s.heap.get? l = some (setO es ep t)) (he : Elems S es) (ht : Tab es t) (hl : t.led = ledOf w)
    (hx : (ordOf w l es ep)[i]? = none) (hQ : ∀ h', Heap.ExtBut it s.heap h' → Q none { s with heap := h' }) : wpAny (model prog w) A (pyNext (.ref it)) Q E s := by
  obtain ⟨o, slot, ho', hc, hd, hb⟩ := id hit
  unfold pyNext
  refine wpAny_bind (wpAny_attempt (wpAny_callSpecial?_slot (name := Str.ofString "__next__") hit.typeIs slot_seti_next (wpAny_call_entry slot_seti_next hit.typeIs entry_seti_next ?_ (args_seti_next _))))
  unfold Builtin.«set_iterator.__next__»
  refine wpAny_bind (wpAny_pure ?_)
  refine wpAny_bind (wpAny_fieldsOf ho' hd ?_)
  show wpAny _ _ (setEntries l >>= _) _ _ s
  refine wpAny_bind (wp_setEntries ho he ht ?_)
  rw [if_neg (by simp)]
  show wpAny _ _ (setNext l ((slot : Nat) : Int).toNat ((i : Nat) : Int).toNat ((ep : Nat) : Int).toNat >>= _) _ _ s
  rw [Int.toNat_natCast, Int.toNat_natCast, Int.toNat_natCast]
  refine wpAny_bind (wp_setNext ho he ht hl hb (fun k' v' slot' hx' hb' => by rw [hx] at hx'; cases hx') fun _ => ?_)
  dsimp only
  refine wpAny_bind (wpAny_setField ho' hd (by simp) ?_)
  show wpAny _ _ (newExc (.type "StopIteration") [] >>= _) _ _ _
  refine wpAny_bind ?_
  simp only [newExc, newTuple]
  refine wpAny_bind (wpAny_newObj_type ?_ (by size_fits))
  refine wpAny_bind (m := firstArgMember _ _) (wpAny_of_eq (a := Value.none) (by first | rfl | (simp only [firstArgMember]; rfl)) ?_)
  refine wpAny_newObj_type ?_ (by size_fits)
  simp only [raiseNew]
  refine wpAny_bind (wpAny_handled ?_)
  rw [show A.in1.handled = none from hh]
  refine wpAny_bind (wpAny_pure (wpAny_throw ?_))
  refine wpAny_bind (wpAny_isInstance (T := "StopIteration") (b := true) ⟨_, Heap.get?_push_size _ rfl, rfl⟩ isSubtype_stop ?_)
  exact wpAny_pure (hQ _ (((Heap.SameBut.update ..).extBut.push _).push _))
end
end Mine

namespace Mine

theorem Elems.ord {w : World} {S : Int → Bool} {l : Addr} {es : Array (Int × Value)} {ep : Nat} (he : Elems S es) : Elems S (ordOf w l es ep) := he.perm (ordOf_perm w l es ep)
def numAt (es : Array (Int × Value)) (i : Nat) : Int := (es[i]?.map (·.1)).getD 0
theorem Elems.at {S : Int → Bool} {es : Array (Int × Value)} (he : Elems S es) {i : Nat} (hi : i < es.size) : ∃ (k : Nat) (tok : Tok), k < 12 ∧ es[i]? = some ((k : Int), .int k tok) ∧ numAt es i = k ∧ S k = true := by
  obtain ⟨k, tok, h1, h2⟩ := he.each es[i] (by simp)
  have h3 : es[i]? = some ((k : Int), .int k tok) := by rw [Array.getElem?_eq_getElem hi, h2]
  refine ⟨k, tok, h1, h3, by unfold numAt; rw [h3]; rfl, (he.mem k).mpr (List.mem_map.mpr ⟨es[i], by simp, by rw [h2]⟩)⟩
theorem Elems.has {S : Int → Bool} {es : Array (Int × Value)} (he : Elems S es) {j : Int} (hj : S j = true) : ∃ i, i < es.size ∧ numAt es i = j := by
  obtain ⟨e, h1, h2⟩ := List.mem_map.mp ((he.mem j).mp hj)
  obtain ⟨i, hi, hei⟩ := List.mem_iff_getElem.mp h1
  refine ⟨i, by simpa using hi, ?_⟩
  unfold numAt
  have : es[i]? = some e := by rw [Array.getElem?_eq_getElem (by simpa using hi)]; simpa using hei
  rw [this]; exact h2

theorem entry_seti_iter : entryFor table "set_iterator.__iter__" = some Builtin.«dict_keyiterator.__iter__» := entryFor_alias (id' := "dict_keyiterator.__iter__") (by kernel_rfl) rfl (by decide +kernel) (by kernel_rfl)
theorem args_seti_iter (a : Value) : argsOk "set_iterator.__iter__" ⟨[a], []⟩ := by unfold argsOk; kernel_rfl
theorem wp_pyIter_seti {prog : Program} {w : World} {A : Around} {E : Value → Shared → Prop} {s : Shared} {it : Addr} {Q : Value → Shared → Prop} (hT : s.TypeIs (.ref it) "set_iterator") (h : Q (.ref it) s) : wpAny (model prog w) A (pyIter (.ref it)) Q E s := by
  refine wpAny_pyIter_slot hT slot_seti_iter (wpAny_call_entry slot_seti_iter hT entry_seti_iter ?_ (args_seti_iter _))
  show wpAny _ _ (ret (.ref it)) _ _ s
  exact wpAny_pure ⟨_, rfl, "set_iterator", _, hT, slot_seti_next.lookup, h⟩

section
variable {prog : Program} {w : World} {A : Around} {S : Int → Bool} {l it : Addr} {es : Array (Int × Value)} {ep : Nat} {t : SetTable}
theorem SetIt.frame {h h' : Heap} {i : Nat} (x : SetIt w h it l es ep t i) (hk : ∀ o, h.get? it = some o → h'.get? it = some o) : SetIt w h' it l es ep t i := let ⟨o, sl, ho, r⟩ := x; ⟨o, sl, hk o ho, r⟩
theorem setWalks (hh : A.handled = none) (hne : l ≠ it) (he : Elems S es) (ht : Tab es t) (hl : t.led = ledOf w) :
    WalksS prog w A it [it, l] [it] (fun a b => b = a) (ordOf w l es ep).size (fun i v => ∃ tok, v = .int (numAt (ordOf w l es ep) i) tok) (fun i s => SetIt w s.heap it l es ep t i ∧ s.heap.get? l = some (setO es ep t)) where
  sub := by simp
  grefl := fun _ => rfl
  gtrans := fun _ _ _ h1 h2 => h2.trans h1
  frame := fun i s h' tk st _ hk => ⟨st.1.frame (hk it (by simp)), hk l (by simp) _ st.2⟩
  item := fun i s Q E hi st hQ => by
    obtain ⟨k, tok, _, h3, h4, _⟩ := he.ord.at hi
    refine wp_pyNext_set_item st.1 st.2 he ht hl h3 fun h' st' hs => hQ _ _ ⟨tok, by rw [h4]⟩ ⟨st', (hs.2 l hne).trans st.2⟩ ⟨fun b o hb e => (hs.2 b (by simpa using hb)).trans e, rfl, rfl, rfl, Nat.le_refl _⟩
  done := fun s Q E st hQ => wp_pyNext_set_end hh st.1 st.2 he ht hl (Array.getElem?_eq_none (Nat.le_refl _)) fun h' hs => hQ _ ⟨fun b o hb e => hs b o (by simpa using hb) e, rfl, rfl, rfl, Nat.le_refl _⟩
  self := fun i s Q E st hQ => by
    obtain ⟨o, sl, ho, hc, hd, hb⟩ := st.1
    exact wp_pyIter_seti ⟨o, ho, hc⟩ hQ
end

theorem A_maxS {C : Cx} {E : Value → Shared → Prop} {σ : AS} (hd : C.hd = true) {l : Addr} {S : Int → Bool} {Q : PV → AS → Prop} (hl : σ.hp l = some (.set S)) (hne : ∃ j, S j = true)
    (h : ∀ M, S M = true → (∀ j, S j = true → j ≤ M) → Q (.int M) σ) : ACall C (.builtin "max") [.ref l] Q E σ := fun us hus s r => by
  cases hus with
  | cons h1 hn =>
    cases h1; cases hn
    have hh := r.1.handled hd
    obtain ⟨ob, ho, es, ep, t, rfl, he, ht, hled⟩ := r.heap.obj l _ hl
    refine call_max_walkS (wp_pyIter_set ho he ht fun hit => ?_)
    have hlt : l < s.heap.objs.size := Heap.lt_size ho
    have hpos : 0 < (ordOf C.G.w l es ep).size := by
      obtain ⟨j, hj⟩ := hne
      obtain ⟨i, hi, _⟩ := (he.ord (w := C.G.w) (l := l) (ep := ep)).has hj
      omega
    refine ⟨s.heap.objs.size, [s.heap.objs.size, l], [s.heap.objs.size], _, _, _, _, fun i j => decide (numAt (ordOf C.G.w l es ep) i > numAt (ordOf C.G.w l es ep) j), rfl,
      setWalks (A := C.A.in1) hh (Nat.ne_of_lt hlt) he ht hled, ⟨hit, Heap.get?_push_of_some _ ho⟩, ?_, hpos, ?_, ?_⟩
    · intro b hb
      simp only [List.mem_cons, List.not_mem_nil, or_false] at hb
      show b < (s.heap.push _).objs.size
      rw [Heap.size_push]
      rcases hb with rfl | rfl
      · exact Nat.lt_succ_self _
      · exact Nat.lt_succ_of_lt hlt
    · rintro i j vi vj s' Q' E' ⟨ti, rfl⟩ ⟨tj, rfl⟩ hq
      exact show wpAny _ _ (compareOp .Gt _ _) _ _ _ from gt_int hq
    · rintro v s' ⟨tok, rfl⟩ hm
      obtain ⟨b1, b2⟩ := argBest_gt (numAt (ordOf C.G.w l es ep)) ((ordOf C.G.w l es ep).size - 1)
      generalize argBest (fun i j => decide (numAt (ordOf C.G.w l es ep) i > numAt (ordOf C.G.w l es ep) j)) ((ordOf C.G.w l es ep).size - 1) = m at b1 b2
      obtain ⟨k, tok', _, _, h4, h5⟩ := (he.ord (w := C.G.w) (l := l) (ep := ep)).at (i := m) (by omega)
      refine ⟨.int (numAt (ordOf C.G.w l es ep) m), σ, .int _ _, ?_, h _ (by rw [h4]; exact h5) fun j hj => ?_⟩
      · have e : s' = { s with heap := s'.heap, toks := s'.toks } := by
          obtain ⟨hp, g, d, tk, os⟩ := s'
          have g1 := hm.gens
          have g2 := hm.drawn
          have g3 := hm.os
          dsimp only at g1 g2 g3 ⊢
          subst g1 g2 g3
          rfl
        rw [e]
        refine r.to ?_
        have rh := r.heap.push { cls := .type "set_iterator", data := .fields #[rawInt 0, rawInt 0, .ref l, rawInt (es.size : Int), rawInt (ep : Int)] }
        obtain ⟨f1, f2, f3, f4⟩ := r.heap.fresh (heap_size_none s.heap)
        exact rh.keepsBut (fun b o hb e => hm.heap b o (by simpa using hb) e) f1 f2 f3 f4
      · obtain ⟨i, hi, e⟩ := (he.ord (w := C.G.w) (l := l) (ep := ep)).has hj
        rw [← e]; exact b2 i (by omega)
end Mine

namespace Mine

theorem compTurn_set (elt target iter : Expr) (ifs : List Expr) (scope : Scope) (pos : Pos) (it acc : Value) (env : Env) :
    compTurn (.SetComp elt [⟨target, iter, ifs, 0⟩] scope pos) 0 it acc env = (do
      standAt iter.pos
      match ← pyNext it with
      | none => pure (.done .next)
      | some v =>
        letOwnedTupleGo target it v
        assign target env v
        let mut ok := true
        for c in ifs do
          if ok then ok ← isTrue c env (eval c env)
        if ok then
          (do let v ← eval elt env; standAt elt.pos; let _ ← call (.builtin "set.add") [acc, v])
        again (.compLoop (.SetComp elt [⟨target, iter, ifs, 0⟩] scope pos) 0 it acc env)) := by rfl

section
variable {prog : Program} {w : World} {A : Around} {E : Value → Shared → Prop} {R : Result → Shared → Prop} {s : Shared}
theorem compLoop_set {elt target iter : Expr} {ifs : List Expr} {scope : Scope} {pos : Pos} {it acc : Value} {env : Env} (I : Nat → Shared → Prop)
    (turn : ∀ n s, I n s → wpAny (model prog w) A (pyNext it) (fun r s₁ => match r with
      | none => R (.ok .next) s₁
      | some v => wpAny (model prog w) A (assign target env v) (fun _ s₂ =>
          wpAny (model prog w) A (forIn ifs true fun c r => if r = true then do let ok ← isTrue c env (eval c env); pure (ForInStep.yield ok) else pure (ForInStep.yield r)) (fun ok s₃ =>
            if ok = true then wpAny (model prog w) A (eval elt env) (fun x s₄ =>
              wpAny (model prog w) A (call (.builtin "set.add") [acc, x]) (fun _ s₅ => ∃ m, m < n ∧ I m s₅) (notedBy (model prog w) A env fun e s' => R (.error e) s') s₄) (notedBy (model prog w) A env fun e s' => R (.error e) s') s₃
            else ∃ m, m < n ∧ I m s₃) (notedBy (model prog w) A env fun e s' => R (.error e) s') s₂) (notedBy (model prog w) A env fun e s' => R (.error e) s') s₁) (notedBy (model prog w) A env fun e s' => R (.error e) s') s)
    (n : Nat) (h : I n s) (ht : ∀ v, letOwnedTupleGo target it v = pure () := by intro _; rfl) :
    codeAny (model prog w) A (.compLoop (.SetComp elt [⟨target, iter, ifs, 0⟩] scope pos) 0 it acc env) R s := by
  refine codeAny_loop rfl I (fun n s hI => ?_) n h
  show wpAny _ A ((compTurn (.SetComp elt [⟨target, iter, ifs, 0⟩] scope pos) 0 it acc env).onRaise (fun x => do noteFrame x env; theTreesLotGoes x)) _ _ s
  refine wpAny_noted ?_
  rw [compTurn_set]
  refine wpAny_bind (wpAny_standAt (wpAny_bind (wpAny_mono (turn n s hI) (fun r s₁ h₁ => ?_) fun _ _ h' => h')))
  cases r with
  | none => exact wpAny_pure h₁
  | some v =>
    refine wpAny_bind (wpAny_of_eq (ht v) ?_)
    refine wpAny_bind (wpAny_mono h₁ (fun _ s₂ h₂ => wpAny_bind (wpAny_mono h₂ (fun ok s₃ h₃ => ?_) fun _ _ h' => h')) fun _ _ h' => h')
    cases ok with
    | false => exact wpAny_pure ⟨rfl, h₃⟩
    | true =>
      exact wpAny_bind (wpAny_bind (wpAny_mono h₃ (fun x s₄ h₄ => wpAny_bind (wpAny_standAt (wpAny_bind (wpAny_mono h₄ (fun _ s₅ h₅ => wpAny_pure (wpAny_pure ⟨rfl, h₅⟩)) fun _ _ h' => h')))) fun _ _ h' => h'))

theorem compStart_set {elt target iter ifs rest scope pos it acc env}
    (h0 : codeAny (model prog w) A (.compLoop (.SetComp elt (⟨target, iter, ifs, 0⟩ :: rest) scope pos) 0 it acc env) R s)
    (h : wpAny (model prog w) A (pyIter it) (fun it' s' => codeAny (model prog w) A (.compLoop (.SetComp elt (⟨target, iter, ifs, 0⟩ :: rest) scope pos) 0 it' acc env) R s')
      (notedBy (model prog w) A env fun x s' => R (.error x) s') s) :
    codeAny (model prog w) A (.compStart (.SetComp elt (⟨target, iter, ifs, 0⟩ :: rest) scope pos) 0 it acc env) R s := by
  refine codeAny_of_tree ?_
  show wpAny _ _ ((compStart (.SetComp elt (⟨target, iter, ifs, 0⟩ :: rest) scope pos) 0 it acc env).onRaise (fun x => do noteFrame x env; standAt theWindowsPlace)) _ _ s
  refine wpAny_notedAt ?_
  unfold compStart
  show wpAny _ _ (ask >>= _) _ _ s
  refine wpAny_bind (wpAny_askSetting (wpAny_ite ?_))
  split
  · first
      | exact wpAny_bind (wpAny_pure (wpAny_pure (And.intro rfl h0)))
      | exact wpAny_pure (And.intro rfl h0)
  · first
      | exact wpAny_bind (wpAny_rule (wpAny_bind (wpAny_standAt (wpAny_bind (wpAny_mono h (fun it' s' h' => wpAny_pure (And.intro rfl h')) fun _ _ x => x)))))
      | (refine wpAny_bind (wpAny_rule ?_); show wpAny _ _ (standAt iter.pos >>= _) _ _ s; exact wpAny_bind (wpAny_standAt (wpAny_bind (wpAny_mono h (fun it' s' h' => wpAny_pure (And.intro rfl h')) fun _ _ x => x))))

theorem wp_callAdd {D : Addr} {T : Int → Bool} {es : Array (Int × Value)} {ep : Nat} {t : SetTable} {k : Nat} {tok : Tok} {Q : Value → Shared → Prop} (ho : s.heap.get? D = some (setO es ep t)) (he : Elems T es) (ht : Tab es t) (hk : k < 12)
    (h : ∀ h' es' ep' t', Heap.SameBut D s.heap h' → h'.get? D = some (setO es' ep' t') → Elems (fun j => T j || decide (j = k)) es' → Tab es' t' → t'.led = t.led → Q .none { s with heap := h', toks := s.toks + 1 }) :
    wpAny (model prog w) A (call (.builtin "set.add") [.ref D, .int k tok]) Q E s := by
  refine wpAny_call_entry F.slot_set_add (setO_type ho) F.entry_set_add ?_ (F.args_set_add_2 _ _)
  unfold Builtin.«set.add» Builtin.Frozenset.oneOther
  simp only [List.isEmpty_nil, bind_assoc]
  unfold Builtin.Frozenset.addrOf setAdd
  refine wpAny_bind (wpAny_pure ?_)
  try dsimp only
  refine wpAny_bind (wpAny_pure ?_)
  try dsimp only
  refine wpAny_bind ?_
  refine wpAny_holding ?_
  refine wpAny_bind (wpAny_pyHash_int ?_)
  rw [hashInt_small hk]
  refine wp_setAddHashed (s := { s with toks := s.toks + 1 }) ho he ht hk fun h' es' ep' t' hs ho' he' ht' hl' => ?_
  show wpAny _ _ (ret Value.none) _ _ _
  exact wpAny_pure ⟨_, rfl, h h' es' ep' t' hs ho' he' ht' hl'⟩
end

/-- the set as it stands, of which i elements were taken -/
structure SrcAt (w : World) (it l : Addr) (S : Int → Bool) (es : Array (Int × Value)) (ep : Nat) (t : SetTable) (i : Nat) (h : Heap) : Prop where
  it : SetIt w h it l es ep t i
  obj : h.get? l = some (setO es ep t)
theorem SrcAt.frame {w : World} {it l : Addr} {S : Int → Bool} {es : Array (Int × Value)} {ep : Nat} {t : SetTable} {i : Nat} {h h' : Heap} (x : SrcAt w it l S es ep t i h) (h1 : ∀ o, h.get? it = some o → h'.get? it = some o) (h2 : ∀ o, h.get? l = some o → h'.get? l = some o) :
    SrcAt w it l S es ep t i h' := ⟨x.it.frame h1, h2 _ x.obj⟩

structure TurnS (C : Cx) (loc : Str → Option PV) (cs : List (Str × Addr)) (L it l D : Addr) (T : Int → Bool) (hp : Addr → Option PO) (h : Heap) : Prop where
  rel : RelH C ⟨loc, hp⟩ h
  acc : SetRel C.G.w T (match h.get? D with | some o => o | none => setO #[] 0 (.fresh 0 0 true)) ∧ ∃ o, h.get? D = some o
  ns : ∃ m, h.Ns L m
  own : ∀ x c, cs.lookup x = some c → L < c → ∃ v, h.IsCell c v
  hit : hp it = none
  hl : hp l = none
  hD : hp D = none
  hL : hp L = none
  ho : ∀ x c, cs.lookup x = some c → L < c → hp c = none

theorem TurnS.set {C : Cx} {loc : Str → Option PV} {cs : List (Str × Addr)} {L it l D : Addr} {T : Int → Bool} {hp : Addr → Option PO} {h : Heap} (x : TurnS C loc cs L it l D T hp h) : ∃ es ep t, h.get? D = some (setO es ep t) ∧ Elems T es ∧ Tab es t ∧ t.led = ledOf C.G.w := by
  obtain ⟨h1, o, ho⟩ := x.acc
  rw [ho] at h1
  obtain ⟨es, ep, t, rfl, a, b, c⟩ := h1
  exact ⟨es, ep, t, ho, a, b, c⟩
theorem acc_of {C : Cx} {D : Addr} {T : Int → Bool} {h : Heap} {es : Array (Int × Value)} {ep : Nat} {t : SetTable} (ho : h.get? D = some (setO es ep t)) (he : Elems T es) (ht : Tab es t) (hl : t.led = ledOf C.G.w) :
    SetRel C.G.w T (match h.get? D with | some o => o | none => setO #[] 0 (.fresh 0 0 true)) ∧ ∃ o, h.get? D = some o := by
  rw [ho]; exact ⟨⟨es, ep, t, rfl, he, ht, hl⟩, _, rfl⟩

def takenS (xs : Array (Int × Value)) (f : Int → Bool) (i : Nat) : Int → Bool := fun j => f j && ((xs.toList.take i).map (·.1)).contains j
theorem takenS_zero (xs : Array (Int × Value)) (f : Int → Bool) : takenS xs f 0 = fun _ => false := by funext j; simp [takenS]
theorem takenS_yes {xs : Array (Int × Value)} {f : Int → Bool} {i : Nat} {k : Int} {v : Value} (hx : xs[i]? = some (k, v)) (hf : f k = true) : (fun j => takenS xs f i j || decide (j = k)) = takenS xs f (i + 1) := by
  funext j
  have hx' : xs.toList[i]? = some (k, v) := by simpa using hx
  rw [Bool.eq_iff_iff]
  simp only [takenS, take_succ_at hx', List.map_append, List.contains_iff_mem, Bool.or_eq_true, Bool.and_eq_true, decide_eq_true_eq, List.mem_append, List.map_cons, List.map_nil, List.mem_singleton]
  constructor
  · rintro (⟨h1, h2⟩ | rfl)
    · exact ⟨h1, .inl h2⟩
    · exact ⟨hf, .inr rfl⟩
  · rintro ⟨h1, h2 | h2⟩
    · exact .inl ⟨h1, h2⟩
    · exact .inr h2
theorem takenS_no {xs : Array (Int × Value)} {f : Int → Bool} {i : Nat} {k : Int} {v : Value} (hx : xs[i]? = some (k, v)) (hf : f k = false) : takenS xs f (i + 1) = takenS xs f i := by
  funext j
  have hx' : xs.toList[i]? = some (k, v) := by simpa using hx
  rw [Bool.eq_iff_iff]
  simp only [takenS, take_succ_at hx', List.map_append, List.contains_iff_mem, Bool.and_eq_true, List.mem_append, List.map_cons, List.map_nil, List.mem_singleton]
  constructor
  · rintro ⟨h1, h2 | rfl⟩
    · exact ⟨h1, h2⟩
    · rw [hf] at h1; cases h1
  · rintro ⟨h1, h2⟩; exact ⟨h1, .inl h2⟩
theorem takenS_all {S : Int → Bool} {xs : Array (Int × Value)} (he : Elems S xs) (f : Int → Bool) : takenS xs f xs.size = fun j => S j && f j := by
  funext j
  rw [Bool.eq_iff_iff]
  have : xs.toList.take xs.size = xs.toList := List.take_of_length_le (by simp)
  simp only [takenS, this, List.contains_iff_mem, Bool.and_eq_true]
  rw [← he.mem j, and_comm]

/-- the loop of a set comprehension over a set -/
theorem setComp_loop {C : Cx} {loc : Str → Option PV} {sc : Scope} {cs : List (Str × Addr)} {L it l D : Addr} {S f : Int → Bool} {es : Array (Int × Value)} {ep : Nat} {t : SetTable} {x : Str} {px : Pos} {elt iter c : Expr} {pos : Pos}
    {R : Result → Shared → Prop} {hpS : Addr → Option PO}
    (ok : CxOK C) (hdl : C.hd = true) (hb : CBelow C L) (hkind : sc.kind = .function) (cc : CellsC C sc L cs) (hfree : ∀ y, sc.names.lookup y = some .free → C.cv y = true) (hx : wrOf sc.names x = true)
    (hit1 : C.fz it = none) (hit2 : it ≠ C.env.locals) (hit3 : ∀ x c, C.env.cells.lookup x = some c → it ≠ c) (hitL : it < L) (hlL : l < L) (hlit : l ≠ it)
    (hD1 : C.fz D = none) (hD2 : D ≠ C.env.locals) (hD3 : ∀ x c, C.env.cells.lookup x = some c → D ≠ c) (hDL : D < L) (hDit : D ≠ it) (hDl : D ≠ l)
    (he : Elems S es) (ht : Tab es t) (hled : t.led = ledOf C.G.w)
    (turn : ∀ (k : Nat) hp C' E', k < 12 → S k = true → Ext hpS hp → CompCx C sc C' →
      AB C' (isTrue c C'.env (eval c C'.env)) (fun b σ' => if b = true then f k = true ∧ AV C' (eval elt C'.env) (fun w σ'' => w = .int k ∧ Ext hpS σ''.hp) E' σ' else f k = false ∧ Ext hpS σ'.hp) E' ⟨updS (locC sc loc) x (.int k), hp⟩)
    (fin : ∀ hp h tk, Ext hpS hp → TurnS C loc cs L it l D (fun j => S j && f j) hp h → R (.ok .next) { C.s0 with heap := h, toks := tk })
    {hp0 : Addr → Option PO} {h0 : Heap} {tk0 : Nat} (I0 : Ext hpS hp0) (st0 : SrcAt C.G.w it l S es ep t 0 h0) (T0 : TurnS C loc cs L it l D (fun _ => false) hp0 h0) :
    codeAny (model C.G.prog C.G.w) C.A (.compLoop (.SetComp elt [⟨.Name x px, iter, [c], 0⟩] sc pos) 0 (.ref it) (.ref D) (compCx C sc cs L h0 hp0).env) R { C.s0 with heap := h0, toks := tk0 } := by
  have heo := he.ord (w := C.G.w) (l := l) (ep := ep)
  generalize hxs : ordOf C.G.w l es ep = xs at heo
  refine compLoop_set (fun n s => ∃ i hp h tk, n + i = xs.size ∧ Ext hpS hp ∧ s = { C.s0 with heap := h, toks := tk } ∧ SrcAt C.G.w it l S es ep t i h ∧ TurnS C loc cs L it l D (takenS xs f i) hp h) ?_ xs.size
    ⟨0, hp0, h0, tk0, rfl, I0, rfl, st0, by rw [takenS_zero]; exact T0⟩
  rintro n s ⟨i, hp, h, tk, hni, hI, rfl, st, T⟩
  have r : Rel C ⟨loc, hp⟩ { C.s0 with heap := h, toks := tk } := ⟨ok, h, tk, rfl, T.rel⟩
  by_cases hlt : i < xs.size
  · obtain ⟨k, tok, hk12, hxi, _, hSk⟩ := heo.at hlt
    refine wp_pyNext_set_item st.it st.obj he ht hled (by rw [hxs]; exact hxi) ?_
    intro h2 st2 hs2
    have st2' : SrcAt C.G.w it l S es ep t (i + 1) h2 := ⟨st2, (hs2.2 l hlit).trans st.obj⟩
    have rh2 : RelH C ⟨loc, hp⟩ h2 := T.rel.keepsBut (fun b o hb e => hs2.extBut b o hb e) hit1 hit2 hit3 T.hit
    obtain ⟨es1, ep1, t1, ho1, he1, ht1, hl1⟩ := T.set
    let C2 := compCx C sc cs L h2 hp
    have ns2 : ∃ m, h2.Ns L m := let ⟨m, hm⟩ := T.ns; ⟨m, hm.sameBut hs2 (Nat.ne_of_gt hitL)⟩
    have own2 : ∀ x c, cs.lookup x = some c → L < c → ∃ v, h2.IsCell c v := fun x c e hl => let ⟨v, hv⟩ := T.own x c e hl; ⟨v, hv.sameBut hs2 (Nat.ne_of_gt (Nat.lt_trans hitL hl))⟩
    have hoD2 : h2.get? D = some (setO es1 ep1 t1) := (hs2.2 D hDit).trans ho1
    have r2 : Rel C2 ⟨locC sc loc, hp⟩ { C.s0 with heap := h2, toks := tk } := ⟨compOK (σ := ⟨loc, hp⟩) ok rh2 hb hkind cc hfree, h2, tk, rfl, compRel (σ := ⟨loc, hp⟩) ok rh2 hb cc hfree ns2 own2 T.hL T.ho⟩
    refine wpAny_assign_Name ?_
    refine wpAG (AU_store (C := C2) (Q := fun _ σ'' => σ'' = AS.st ⟨locC sc loc, hp⟩ x (.int k)) hx (.int k tok) rfl _ r2) (fun _ s4 _ σ4 _ r4 e4 => ?_) fun _ _ e => e
    subst e4
    have out : ∀ σ5 s5, Rel C2 σ5 s5 → ∃ h5 tk5, s5 = { C.s0 with heap := h5, toks := tk5 } ∧ SrcAt C.G.w it l S es ep t (i + 1) h5 ∧ TurnS C loc cs L it l D (takenS xs f i) σ5.hp h5 := by
      rintro σ5 s5 ⟨_, h5, tk5, rfl, rh5⟩
      have none_of : ∀ a o, C2.fz a = some o → σ5.hp a = none := fun a o e => by
        cases e' : σ5.hp a with
        | none => rfl
        | some p => rw [(rh5.free a p e').1] at e; cases e
      obtain ⟨oi, _, hoi, _⟩ := st2
      have fzit : C2.fz it = some oi := frz_of hitL T.hit hoi
      have fzl : C2.fz l = some (setO es ep t) := frz_of hlL T.hl st2'.obj
      have fzD : C2.fz D = some (setO es1 ep1 t1) := frz_of hDL T.hD hoD2
      refine ⟨h5, tk5, rfl, st2'.frame (fun o e => rh5.keep it o (frz_of hitL T.hit e)) (fun o e => rh5.keep l o (frz_of hlL T.hl e)), ?_⟩
      exact {
        rel := RelH.back (C' := C2) (σ := ⟨loc, hp⟩) rh2 hb rfl rfl rh5
        acc := acc_of (rh5.keep _ _ fzD) he1 ht1 hl1
        ns := let ⟨m, hm, _⟩ := rh5.ns; ⟨m, hm⟩
        own := fun x c e _ => rh5.cells x c e
        hit := none_of _ _ fzit
        hl := none_of _ _ fzl
        hD := none_of _ _ fzD
        hL := by
          cases e' : σ5.hp L with
          | none => rfl
          | some p => exact absurd rfl (rh5.free L p e').2.1
        ho := fun x c e _ => by
          cases e' : σ5.hp c with
          | none => rfl
          | some p => exact absurd rfl ((rh5.free c p e').2.2 x c e) }
    refine wpAG (AB_tests (ifs := [c]) (turn k hp C2 _ hk12 hSk hI (compCx_is ..)) s4 r4) (fun b s5 b' σ5 hbb r5 h5 => ?_) fun _ _ e => e
    subst hbb
    cases b' with
    | false =>
      rw [if_neg (by decide)] at h5
      obtain ⟨h6, tk6, rfl, st6, T6⟩ := out σ5 s5 r5
      exact ⟨n - 1, by omega, i + 1, σ5.hp, h6, tk6, by omega, h5.2, rfl, st6, by rw [takenS_no hxi h5.1]; exact T6⟩
    | true =>
      rw [if_pos rfl] at h5
      refine wpAG (h5.2 s5 r5) (fun w s6 pw σ6 hw r6 h6 => ?_) fun _ _ e => e
      obtain ⟨h7, tk7, rfl, st7, T7⟩ := out σ6 s6 r6
      obtain ⟨rfl, h6'⟩ := h6
      cases hw with
      | int _ tok7 =>
        obtain ⟨es7, ep7, t7, ho7, he7, ht7, hl7⟩ := T7.set
        refine wp_callAdd (s := { C.s0 with heap := h7, toks := tk7 }) ho7 he7 ht7 hk12 fun h8 es8 ep8 t8 hs8 ho8 he8 ht8 hl8 => ?_
        refine ⟨n - 1, by omega, i + 1, σ6.hp, h8, tk7 + 1, by omega, h6', rfl, st7.frame (fun o e => (hs8.2 it (Ne.symm hDit)).trans e) (fun o e => (hs8.2 l (Ne.symm hDl)).trans e), ?_⟩
        rw [takenS_yes hxi h5.1] at he8
        exact {
          rel := T7.rel.keepsBut (fun b o hb e => hs8.extBut b o hb e) hD1 hD2 hD3 T7.hD
          acc := acc_of ho8 he8 ht8 (hl8.trans hl7)
          ns := let ⟨m, hm⟩ := T7.ns; ⟨m, hm.sameBut hs8 (Nat.ne_of_gt hDL)⟩
          own := fun x c e hl => let ⟨v, hv⟩ := T7.own x c e hl; ⟨v, hv.sameBut hs8 (Nat.ne_of_gt (Nat.lt_trans hDL hl))⟩
          hit := T7.hit
          hl := T7.hl
          hD := T7.hD
          hL := T7.hL
          ho := T7.ho }
  · have hie : i = xs.size := by
      have : i ≤ xs.size := by omega
      omega
    subst hie
    refine wp_pyNext_set_end (ok.handled hdl) st.it st.obj he ht hled (by rw [hxs]; exact Array.getElem?_eq_none (Nat.le_refl _)) ?_
    intro h2 hext
    obtain ⟨es1, ep1, t1, ho1, he1, ht1, hl1⟩ := T.set
    rw [takenS_all heo] at he1
    refine fin hp h2 tk hI {
      rel := T.rel.keepsBut (fun b o hb e => hext b o hb e) hit1 hit2 hit3 T.hit
      acc := acc_of (hext D _ hDit ho1) he1 ht1 hl1
      ns := let ⟨m, o, es, ep, ho, hr⟩ := T.ns; ⟨m, o, es, ep, hext L o (Nat.ne_of_gt hitL) ho, hr⟩
      own := fun x c e hl => let ⟨v, o, ho, hd⟩ := T.own x c e hl; ⟨v, o, hext c o (Nat.ne_of_gt (Nat.lt_trans hitL hl)) ho, hd⟩
      hit := T.hit
      hl := T.hl
      hD := T.hD
      hL := T.hL
      ho := T.ho }
end Mine

namespace Mine

theorem RelH.erase {C : Cx} {σ : AS} {h : Heap} (r : RelH C σ h) (l : Addr) : RelH C ⟨σ.loc, ers σ.hp l⟩ h where
  keep := r.keep
  ns := r.ns
  cell := r.cell
  kinds := r.kinds
  cells := r.cells
  obj := fun a o e => r.obj a o (ers_some e).2
  free := fun a o e => r.free a o (ers_some e).2

/-- what a set comprehension over a set asks, and gives -/
def SetGives (C : Cx) (sc : Scope) (x : Str) (c elt : Expr) (Q : PV → AS → Prop) (p : PV) (σ : AS) : Prop :=
  ∃ (l : Addr) (S f : Int → Bool), p = .ref l ∧ σ.hp l = some (.set S) ∧
    (∀ (k : Nat) hp C' E', k < 12 → S k = true → Ext (ers σ.hp l) hp → CompCx C sc C' →
      AB C' (isTrue c C'.env (eval c C'.env)) (fun b σ' => if b = true then f k = true ∧ AV C' (eval elt C'.env) (fun w σ'' => w = .int k ∧ Ext (ers σ.hp l) σ''.hp) E' σ' else f k = false ∧ Ext (ers σ.hp l) σ'.hp) E' ⟨updS (locC sc σ.loc) x (.int k), hp⟩) ∧
    (∀ hp D, Ext (ers σ.hp l) hp → hp D = none → σ.hp D = none → Q (.ref D) ⟨σ.loc, upd hp D (.set fun j => S j && f j)⟩)

theorem setComp_core {C : Cx} {E : Value → Shared → Prop} {σ : AS} {x : Str} {px pos : Pos} {elt iter c : Expr} {sc : Scope} {u : Value} {p : PV} {s₁ : Shared} {Q : PV → AS → Prop}
    (co : CompOk C sc x) (hdl : C.hd = true) (hu : VR p u) (r₁ : Rel C σ s₁) (h : SetGives C sc x c elt Q p σ) (RR : Value → Addr → Result → Shared → Prop)
    (fin : ∀ D L s' , (∃ m, s'.heap.Ns L m) → (∃ σ', Rel C σ' s' ∧ Q (.ref D) σ' ∧ C.fz L = none ∧ L ≠ C.env.locals ∧ (∀ x c, C.env.cells.lookup x = some c → L ≠ c) ∧ σ'.hp L = none) → RR (.ref D) L (.ok .next) s') :
    wpAny (model C.G.prog C.G.w) C.A (pyIter u) (fun it s₂ => wpAny (model C.G.prog C.G.w) C.A (newSet (.type "set")) (fun acc s₃ =>
      wpAny (model C.G.prog C.G.w) C.A (newFunctionEnv sc C.env.globals (closL C.env.cells sc.names []) [] C.env.qual none .none (some C.env)) (fun cenv s₄ =>
        codeAny (model C.G.prog C.G.w) C.A (.compStart (.SetComp elt [⟨.Name x px, iter, [c], 0⟩] sc pos) 0 it acc { cenv with scope := relabel sc C.env }) (RR acc cenv.locals) s₄) E s₃) E s₂) E s₁ := by
  obtain ⟨l, S, f, rfl, hl, turn, last⟩ := h
  cases hu
  obtain ⟨ok, h0, tk0, rfl, rh0⟩ := r₁
  obtain ⟨ob, hol, es, ep, t, rfl, he, ht, hled⟩ := rh0.obj l _ hl
  have hlt : l < h0.objs.size := Heap.lt_size hol
  obtain ⟨f1, f2, f3, f4⟩ := rh0.fresh (heap_size_none h0)
  refine wp_pyIter_set (s := { C.s0 with heap := h0, toks := tk0 }) hol he ht fun hit => ?_
  generalize hH1 : h0.push { cls := .type "set_iterator", data := .fields #[rawInt 0, rawInt 0, .ref l, rawInt (es.size : Int), rawInt (ep : Int)] } = h1 at hit
  have hk : ∀ b o, h0.get? b = some o → h1.get? b = some o := fun b o e => hH1 ▸ Heap.get?_push_of_some _ e
  have hs1 : h1.objs.size = h0.objs.size + 1 := by rw [← hH1, Heap.size_push]
  have rh1 : RelH C σ h1 := rh0.keeps hk
  obtain ⟨d1, d2, d3, d4⟩ := rh1.fresh (heap_size_none h1)
  refine wp_newSet (s := { C.s0 with heap := h1, toks := tk0 }) ?_
  refine wpAny_compEnv ?_
  dsimp only
  generalize hH2 : h1.push (setO #[] 0 (.fresh 0 0 (ledOf C.G.w))) = H2
  have hL : H2.objs.size = h1.objs.size + 1 := by rw [← hH2, Heap.size_push]
  have k12 : ∀ b o, h1.get? b = some o → H2.get? b = some o := fun b o e => hH2 ▸ Heap.get?_push_of_some _ e
  have rh2 : RelH C σ H2 := rh1.keeps k12
  generalize hH4 : pushCells (H2.push { cls := .type "dict", dict := none, data := .dict #[] }) sc.names = H4
  have k24 : ∀ b o, H2.get? b = some o → H4.get? b = some o := fun b o e => hH4 ▸ pushCells_keeps _ _ b o (Heap.get?_push_of_some _ e)
  have rh4 : RelH C ⟨σ.loc, ers σ.hp l⟩ H4 := (rh2.keeps k24).erase l
  have hbel : CBelow C H2.objs.size := rh2.below
  have cc := cellsC_of ok hbel co.nodup co.free
  generalize hcs : cellsFrom (H2.objs.size + 1) sc.names (closL C.env.cells sc.names []) = cs at cc
  have hown : ∀ x c, cs.lookup x = some c → H2.objs.size < c → ∃ v, H4.IsCell c v := fun y c e hl => by
    have hm := mem_of_lookup e
    rw [← hcs] at hm
    have hs : (H2.push { cls := .type "dict", dict := none, data := .dict #[] }).objs.size = H2.objs.size + 1 := Heap.size_push ..
    rw [← hs] at hm
    rcases pushCells_cell _ _ _ _ hm with h | h
    · have hf : ∀ n, (n, NameKind.free) ∈ sc.names → ∃ c, C.env.cells.lookup n = some c := fun n hn => ok.cvhas n (co.free n (lookup_of_mem co.nodup hn))
      rcases closL_mem _ _ _ hf h with h | h
      · cases h
      · exact absurd (hbel.cell _ _ h.2) (Nat.not_lt.mpr (Nat.le_of_lt hl))
    · exact ⟨none, hH4 ▸ h⟩
  have hnone : ∀ a, H2.objs.size ≤ a → σ.hp a = none := fun a ha => by
    cases e : σ.hp a with
    | none => rfl
    | some o => obtain ⟨ob, hob, _⟩ := rh2.obj a o e; exact absurd (Heap.lt_size hob) (Nat.not_lt.mpr ha)
  have ern : ∀ {a : Addr}, σ.hp a = none → ers σ.hp l a = none := fun {a} e => by unfold ers; split; rfl; exact e
  have T0 : TurnS C σ.loc cs H2.objs.size h0.objs.size l h1.objs.size (fun _ => false) (ers σ.hp l) H4 := {
    rel := rh4
    acc := acc_of (k24 _ _ (hH2 ▸ Heap.get?_push_size _ rfl)) Elems.empty (Tab.new 0 0 _) rfl
    ns := ⟨_, hH4 ▸ (Heap.Ns.new H2 (.type "dict")).keeps (pushCells_keeps _ _)⟩
    own := hown
    hit := ern f4
    hl := by unfold ers; rw [if_pos rfl]
    hD := ern d4
    hL := ern (hnone _ (Nat.le_refl _))
    ho := fun x c e hl => ern (hnone c (Nat.le_of_lt hl)) }
  have st4 : SrcAt C.G.w h0.objs.size l S es ep t 0 H4 := ⟨hit.frame fun o e => k24 _ _ (k12 _ _ e), k24 _ _ (k12 _ _ (hk _ _ hol))⟩
  have loop : ∀ tk, codeAny (model C.G.prog C.G.w) C.A (.compLoop (.SetComp elt [⟨.Name x px, iter, [c], 0⟩] sc pos) 0 (.ref h0.objs.size) (.ref h1.objs.size) (compCx C sc cs H2.objs.size H4 (ers σ.hp l)).env) (RR (.ref h1.objs.size) H2.objs.size) { C.s0 with heap := H4, toks := tk } := by
    intro tk
    have n1 : h0.objs.size < H2.objs.size := by rw [hL, hs1]; omega
    have n2 : l < H2.objs.size := Nat.lt_trans hlt n1
    have n3 : h1.objs.size < H2.objs.size := by rw [hL]; exact Nat.lt_succ_self _
    have n4 : h1.objs.size ≠ h0.objs.size := by rw [hs1]; omega
    have n5 : h1.objs.size ≠ l := fun e => by rw [← e, hs1] at hlt; exact Nat.lt_irrefl _ (Nat.lt_trans (Nat.lt_succ_self _) hlt)
    refine setComp_loop (hpS := ers σ.hp l) ok hdl hbel co.kind cc co.free co.wr f1 f2 f3 n1 n2 (Nat.ne_of_lt hlt) d1 d2 d3 n3 n4 n5 he ht hled turn ?_ (Ext.refl _) st4 T0
    intro hp h tk' hI T
    refine fin _ _ _ T.ns ⟨⟨σ.loc, upd hp h1.objs.size (.set fun j => S j && f j)⟩, ⟨ok, h, tk', rfl, ?_⟩, last hp _ hI T.hD d4, ?_, ?_, ?_, ?_⟩
    · obtain ⟨es', ep', t', ho, he', ht', hl'⟩ := T.set
      exact T.rel.adopt ho (p := .set fun j => S j && f j) ⟨es', ep', t', rfl, he', ht', hl'⟩ d1 d2 d3
    · cases e : C.fz H2.objs.size with
      | none => rfl
      | some o => exact absurd (hbel.fz _ o e) (Nat.lt_irrefl _)
    · exact Nat.ne_of_gt hbel.loc
    · exact fun x c e => Nat.ne_of_gt (hbel.cell x c e)
    · show upd hp h1.objs.size (.set fun j => S j && f j) H2.objs.size = none
      unfold upd
      rw [if_neg (Nat.ne_of_gt n3)]
      exact T.hL
  refine compStart_set (loop _) ?_
  exact wp_pyIter_seti (SetIt.typeIs (s := { C.s0 with heap := H4, toks := _ }) st4.it) (loop _)

theorem AV_setComp {C : Cx} {E : Value → Shared → Prop} {σ : AS} {x : Str} {px pos : Pos} {elt iter c : Expr} {sc : Scope} {Q : PV → AS → Prop} (co : CompOk C sc x) (hdl : C.hd = true)
    (h : AV C (eval iter C.env) (fun p σ₁ => SetGives C sc x c elt Q p σ₁) E σ) (hs : ∀ x, foldedSetIterable iter C.env x = pure x := by intro _; rfl) :
    AV C (eval (.SetComp elt [⟨.Name x px, iter, [c], 0⟩] sc pos) C.env) Q E σ := by
  intro s r
  have ok := r.1
  rw [arm_eval_SetComp]
  have hclos : closureFor sc C.env = pure (closL C.env.cells sc.names []) := closureFor_eq fun n hn => ok.cvhas n (co.free n (lookup_of_mem co.nodup hn))
  refine wpAny_comprehension_free (use := none) rfl hs hclos co.kind (fun y hy hl => lookup_of_mem co.nodup (by rw [← hl]; exact hy)) (wpAG (h s r) (fun u s₁ p σ₁ hu r₁ h₁ => ?_) fun _ _ e => e)
  refine setComp_core co hdl hu r₁ h₁ (fun acc L => compPost (model C.G.prog C.G.w) C.A E none _ acc L) ?_
  rintro D L s' ⟨m, hm⟩ ⟨σ', r', hq, l1, l2, l3, l4⟩
  refine ⟨m, hm, fun h' hs' => ⟨.ref D, σ', .ref D, ?_, hq⟩⟩
  exact r'.toH (r'.heap.keepsBut (fun b o hb e => hs'.extBut b o hb e) l1 l2 l3 l4)

/-- x = {..} -/
theorem AF_assign_setComp {C : Cx} {E : Value → Shared → Prop} {σ : AS} {x y : Str} {px py pos spos : Pos} {elt iter c : Expr} {sc : Scope} {Q : PF → AS → Prop} (co : CompOk C sc x) (hdl : C.hd = true) (hy : C.wr y = true)
    (h : AV C (eval iter C.env) (fun p σ₁ => SetGives C sc x c elt (fun v σ₂ => Q .next (σ₂.st y v)) p σ₁) E σ) (hs : ∀ x, foldedSetIterable iter C.env x = pure x := by intro _; rfl) :
    AF C (exec (.Assign [.Name y py] (.SetComp elt [⟨.Name x px, iter, [c], 0⟩] sc pos) spos) C.env) Q E σ := by
  obtain ⟨b, hb⟩ : ∃ b, swapsWith (.SetComp elt [⟨.Name x px, iter, [c], 0⟩] sc pos) (some (.Name y py)) spos.line C.env = pure b := ⟨_, rfl⟩
  cases b with
  | false => exact AF_assign (AG.mono (AV_setComp co hdl h hs) fun v σ' hq => ⟨hy, hq⟩) hb
  | true =>
    intro s r
    have ok := r.1
    rw [exec_Assign_Name_used _ _ _ _ hb]
    refine wpAny_bind (wpAny_standAt (wpAny_bind ?_))
    show wpAny _ C.A (do let _ ← comprehension (.SetComp elt [⟨.Name x px, iter, [c], 0⟩] sc pos) sc C.env _ (newSet (.type "set")) false (eval iter C.env) (some (assign (.Name y py) C.env))) _ _ s
    have hclos : closureFor sc C.env = pure (closL C.env.cells sc.names []) := closureFor_eq fun n hn => ok.cvhas n (co.free n (lookup_of_mem co.nodup hn))
    refine wpAny_bind (wpAny_mono (wpAny_comprehension_free (use := some (assign (.Name y py) C.env)) (Q := fun _ s' => ∃ b σ', FR b Flow.next ∧ Rel C σ' s' ∧ Q b σ') rfl hs hclos co.kind (fun y hy hl => lookup_of_mem co.nodup (by rw [← hl]; exact hy))
      (wpAG (h s r) (fun u s₁ p σ₁ hu r₁ h₁ => ?_) fun _ _ e => e)) (fun _ s' hq => wpAny_pure (wpAny_pure hq)) fun _ _ e => e)
    refine setComp_core co hdl hu r₁ h₁ (fun acc L => compPost (model C.G.prog C.G.w) C.A E (some (assign (.Name y py) C.env)) _ acc L) ?_
    rintro D L s' ⟨m, hm⟩ ⟨σ', r', hq, l1, l2, l3, l4⟩
    show wpAny _ C.A (assign (.Name y py) C.env (.ref D)) _ _ _
    refine wpAny_assign_Name ?_
    have r2 := r'.freeze l1 l2 l3 l4
    refine wpAG (AU_store (C := C.with (addFz C.fz L (s'.heap.get? L))) (v := .ref D) (Q := fun _ σ'' => σ'' = σ'.st y (.ref D)) hy (.ref D) rfl _ r2) (fun _ s4 _ σ4 _ r4 e4 => ?_) fun _ _ e => e
    subst e4
    refine ⟨m, ?_, fun h' hs' => ⟨.next, _, .next, ?_, hq⟩⟩
    · obtain ⟨o, es, ep, ho, hr⟩ := hm
      exact ⟨o, es, ep, r4.heap.keep L o (by dsimp only [Cx.with, addFz]; rw [if_pos rfl]; exact ho), hr⟩
    · have r5 : Rel C (σ'.st y (.ref D)) s4 := r4.less ok (addFz_le l1)
      exact r5.toH (r5.heap.keepsBut (fun b o hb e => hs'.extBut b o hb e) l1 l2 l3 l4)
end Mine

namespace Mine

/-! ## keys -/
def IsMaxS (L : Int → Bool) (m : Int) : Prop := L m = true ∧ ∀ j, L j = true → j ≤ m
inductive KeyOf (A : Int → Int → Bool) (x : Int) : (Int → Bool) → List Int → Prop
  | last {L} : IsMaxS L x → KeyOf A x L [x]
  | more {L m ks} : IsMaxS L m → m ≠ x → KeyOf A x (fun j => L j && A j m) ks → KeyOf A x L (m :: ks)

theorem KeyOf.getLast {A : Int → Int → Bool} {x : Int} {L : Int → Bool} {ks : List Int} (h : KeyOf A x L ks) : ks.getLast? = some x := by
  induction h with
  | last _ => rfl
  | more _ _ h' ih =>
    cases h' with
    | last _ => exact ih
    | more _ _ _ => rw [List.getLast?_cons_cons]; exact ih
theorem KeyOf.ne_nil {A : Int → Int → Bool} {x : Int} {L : Int → Bool} {ks : List Int} (h : KeyOf A x L ks) : ∃ k r, ks = k :: r := by
  cases h with
  | last _ => exact ⟨_, _, rfl⟩
  | more _ _ _ => exact ⟨_, _, rfl⟩

/-- an order that always takes the least of what is free -/
structure Greedy (A : Int → Int → Bool) (out : List Int) : Prop where
  trans : ∀ x y z, A x y = true → A y z = true → A x z = true
  lin : ∀ x m, x ∈ out → A x m = true → m ∈ out ∧ out.idxOf m < out.idxOf x
  gr : ∀ z q, z ∈ out → q ∈ out → out.idxOf z < out.idxOf q → (∀ m, A q m = true → out.idxOf m < out.idxOf z) → z < q

section
variable {A : Int → Int → Bool} {out : List Int} (G : Greedy A out)
include G
/-- of what is not yet told when m is told, one is free: it is greater than m -/
theorem Greedy.later {m : Int} (hm : m ∈ out) {B : Int → Prop} (hB : ∀ z r, B z → A z r = true → B r) (hmB : ¬ B m) : ∀ (n : Nat) (z : Int), out.idxOf z ≤ n → B z → z ∈ out → out.idxOf m < out.idxOf z →
    ∃ q, B q ∧ q ∈ out ∧ out.idxOf m < out.idxOf q ∧ m < q := by
  intro n
  induction n with
  | zero => intro z hz _ _ h; omega
  | succ n ih =>
    intro z hz hBz hzo hlt
    by_cases hall : ∀ r, A z r = true → out.idxOf r < out.idxOf m
    · exact ⟨z, hBz, hzo, hlt, G.gr m z hm hzo hlt hall⟩
    · obtain ⟨r, hr⟩ := Classical.not_forall.mp hall
      obtain ⟨hr1, hr2⟩ := Classical.not_imp.mp hr
      obtain ⟨hro, hrlt⟩ := G.lin z r hzo hr1
      have hrB := hB z r hBz hr1
      have hne : out.idxOf m ≠ out.idxOf r := fun e => hmB (by
        have : m = r := by
          have h1 := List.getElem_idxOf (List.idxOf_lt_length_iff.mpr hm)
          have h2 := List.getElem_idxOf (List.idxOf_lt_length_iff.mpr hro)
          rw [← h1, ← h2]; congr 1
        rw [this]; exact hrB)
      exact ih r (by omega) hrB hro (by omega)

theorem Greedy.idx_inj {a b : Int} (ha : a ∈ out) (hb : b ∈ out) (e : out.idxOf a = out.idxOf b) : a = b := by
  have h1 := List.getElem_idxOf (List.idxOf_lt_length_iff.mpr ha)
  have h2 := List.getElem_idxOf (List.idxOf_lt_length_iff.mpr hb)
  rw [← h1, ← h2]; congr 1

/-- the state between two steps of the comparison -/
structure KeyIn (A : Int → Int → Bool) (out : List Int) (x y : Int) (Lx Ly : Int → Bool) (tp : Nat) : Prop where
  lx : ∀ z, Lx z = true → A x z = true ∨ z = x
  ly : ∀ z, Ly z = true → A y z = true ∨ z = y
  yl : Ly y = true
  c1 : ∀ z, A y z = true ∨ z = y → Ly z = false → out.idxOf z < tp
  c2 : ∀ z, Lx z = true → tp ≤ out.idxOf z

theorem Greedy.down (z0 : Int) : ∀ z r, (A z0 z = true ∨ z = z0) → A z r = true → (A z0 r = true ∨ r = z0) := by
  rintro z r (h | rfl) hr
  · exact .inl (G.trans _ _ _ h hr)
  · exact .inl hr
theorem Greedy.inx {x : Int} (hx : x ∈ out) {z : Int} (h : A x z = true ∨ z = x) : z ∈ out ∧ out.idxOf z ≤ out.idxOf x := by
  rcases h with h | rfl
  · have := G.lin x z hx h; exact ⟨this.1, Nat.le_of_lt this.2⟩
  · exact ⟨hx, Nat.le_refl _⟩
theorem Greedy.top {x y : Int} (hx : x ∈ out) (hy : y ∈ out) (hxy : out.idxOf x < out.idxOf y) {Lx Ly : Int → Bool} {tp : Nat} (I : KeyIn A out x y Lx Ly tp) {m m' : Int} (hm : IsMaxS Lx m) (hm' : IsMaxS Ly m') : m ≤ m' := by
  refine Int.not_lt.mp fun hlt => ?_
  obtain ⟨hmo, hmx⟩ := G.inx hx (I.lx m hm.1)
  have htp := I.c2 m hm.1
  by_cases hmB : A y m = true ∨ m = y
  · cases e : Ly m with
    | true => have := hm'.2 m e; omega
    | false => have := I.c1 m hmB e; omega
  · obtain ⟨q, hq1, hq2, hq3, hq4⟩ := G.later hmo (B := fun z => A y z = true ∨ z = y) (G.down y) hmB _ y (Nat.le_refl _) (.inr rfl) hy (by omega)
    cases e : Ly q with
    | true => have := hm'.2 q e; omega
    | false => have := I.c1 q hq1 e; omega
theorem Greedy.next {x y : Int} (hx : x ∈ out) (hy : y ∈ out) (hxy : out.idxOf x < out.idxOf y) {Lx Ly : Int → Bool} {tp : Nat} (I : KeyIn A out x y Lx Ly tp) {m : Int} (hm : IsMaxS Lx m) (hm' : IsMaxS Ly m) (hmy : m ≠ y) :
    KeyIn A out x y (fun j => Lx j && A j m) (fun j => Ly j && A j m) (out.idxOf m + 1) := by
  obtain ⟨hmo, hmx⟩ := G.inx hx (I.lx m hm.1)
  have htp := I.c2 m hm.1
  have hym : A y m = true := (I.ly m hm'.1).elim id fun e => absurd e hmy
  refine ⟨fun z hz => I.lx z (Bool.and_eq_true_iff.mp hz).1, fun z hz => I.ly z (Bool.and_eq_true_iff.mp hz).1, by rw [I.yl, hym]; rfl, fun z hz hf => ?_, fun z hz => ?_⟩
  · cases e : Ly z with
    | false => have := I.c1 z hz e; omega
    | true =>
      have hzm : A z m = false := by simpa [e] using hf
      by_cases ezm : z = m
      · rw [ezm]; omega
      · obtain ⟨hzo, hzy⟩ := G.inx hy hz
        refine Nat.lt_succ_of_lt (Nat.not_le.mp fun hle => ?_)
        have hlt : out.idxOf m < out.idxOf z := by
          have : out.idxOf m ≠ out.idxOf z := fun e => ezm (G.idx_inj hmo hzo e).symm
          omega
        have hmB : ¬ (A z m = true ∨ m = z) := by
          rintro (h | h)
          · rw [hzm] at h; cases h
          · exact ezm h.symm
        obtain ⟨q, hq1, hq2, hq3, hq4⟩ := G.later hmo (B := fun r => A z r = true ∨ r = z) (G.down z) hmB _ z (Nat.le_refl _) (.inr rfl) hzo hlt
        have hqy : A y q = true ∨ q = y := by
          rcases hq1 with h | rfl
          · exact G.down y z q hz h
          · exact hz
        cases e' : Ly q with
        | true => have := hm'.2 q e'; omega
        | false => have := I.c1 q hqy e'; omega
  · obtain ⟨h1, h2⟩ := Bool.and_eq_true_iff.mp hz
    obtain ⟨hzo, _⟩ := G.inx hx (I.lx z h1)
    have := (G.lin z m hzo h2).2
    omega

theorem Greedy.keys {x y : Int} (hx : x ∈ out) (hy : y ∈ out) (hxy : out.idxOf x < out.idxOf y) : ∀ {Lx : Int → Bool} {kx : List Int}, KeyOf A x Lx kx → ∀ {Ly : Int → Bool} {ky : List Int} (tp : Nat), KeyOf A y Ly ky → KeyIn A out x y Lx Ly tp → lexlt kx ky = true := by
  have hne : x ≠ y := by rintro rfl; omega
  intro Lx kx hkx
  induction hkx with
  | @last Lx hm =>
    intro Ly ky tp hky I
    cases hky with
    | last hm' =>
      have := G.top hx hy hxy I hm hm'
      unfold lexlt; rw [if_neg hne]; simp; omega
    | @more _ m' ks hm' hne' hk =>
      have := G.top hx hy hxy I hm hm'
      unfold lexlt
      by_cases e : x = m'
      · rw [if_pos e]
        obtain ⟨k, r, rfl⟩ := hk.ne_nil
        rfl
      · rw [if_neg e]; simp; omega
  | @more Lx m ks hm hnx hk ih =>
    intro Ly ky tp hky I
    cases hky with
    | last hm' =>
      have := G.top hx hy hxy I hm hm'
      have hmy : m ≠ y := by
        rintro rfl
        have := (G.inx hx (I.lx m hm.1)).2
        omega
      unfold lexlt; rw [if_neg hmy]; simp; omega
    | @more _ m' ks' hm' hne' hk' =>
      have := G.top hx hy hxy I hm hm'
      unfold lexlt
      by_cases e : m = m'
      · subst e
        rw [if_pos rfl]
        exact ih _ hk' (G.next hx hy hxy I hm hm' hne')
      · rw [if_neg e]; simp; omega

theorem Greedy.key_lt {x y : Int} (hx : x ∈ out) (hy : y ∈ out) (hxy : out.idxOf x < out.idxOf y) {kx ky : List Int} (h1 : KeyOf A x (fun j => A x j || decide (j = x)) kx) (h2 : KeyOf A y (fun j => A y j || decide (j = y)) ky) : lexlt kx ky = true :=
  G.keys hx hy hxy h1 0 h2 ⟨fun z hz => by simpa using hz, fun z hz => by simpa using hz, by simp, fun z hz hf => by rcases hz with h | h <;> simp [h] at hf, fun _ _ => Nat.zero_le _⟩
end

theorem eq_of_pairwise {α : Type} {R : α → α → Prop} (as : ∀ a b, R a b → ¬ R b a) : ∀ {xs ys : List α}, xs.Perm ys → xs.Pairwise R → ys.Pairwise R → xs = ys
  | [], ys, hp, _, _ => by have := hp.length_eq; cases ys with | nil => rfl | cons y ys => simp at this
  | x :: xs, [], hp, _, _ => by have := hp.length_eq; simp at this
  | x :: xs, y :: ys, hp, h1, h2 => by
    rw [List.pairwise_cons] at h1 h2
    have e : x = y := by
      have hx : x ∈ y :: ys := hp.mem_iff.mp (.head _)
      have hy : y ∈ x :: xs := hp.mem_iff.mpr (.head _)
      rcases List.mem_cons.mp hx with h | h
      · exact h
      · rcases List.mem_cons.mp hy with h' | h'
        · exact h'.symm
        · exact absurd (h2.1 x h) (as _ _ (h1.1 y h'))
    subst e
    rw [eq_of_pairwise as ((List.perm_cons x).mp hp) h1.2 h2.2]
end Mine

namespace Mine

/-! ## names and ranks -/
def addName (ns : List Int) (x : Int) : List Int := if ns.contains x then ns else ns ++ [x]
def namesFrom (ns l : List Int) : List Int := l.foldl addName ns
theorem namesFrom_snoc (ns l : List Int) (x : Int) : namesFrom ns (l ++ [x]) = addName (namesFrom ns l) x := by simp [namesFrom]
theorem addName_ext (ns : List Int) (x : Int) : ∃ t, addName ns x = ns ++ t := by
  unfold addName
  split
  · exact ⟨[], by simp⟩
  · exact ⟨[x], rfl⟩
theorem namesFrom_ext : ∀ (l ns : List Int), ∃ t, namesFrom ns l = ns ++ t
  | [], ns => ⟨[], by simp [namesFrom]⟩
  | x :: l, ns => by
    obtain ⟨t, ht⟩ := addName_ext ns x
    obtain ⟨t', ht'⟩ := namesFrom_ext l (addName ns x)
    exact ⟨t ++ t', by show namesFrom (addName ns x) l = _; rw [ht', ht, List.append_assoc]⟩
theorem addName_nodup {ns : List Int} (h : ns.Nodup) (x : Int) : (addName ns x).Nodup := by
  unfold addName
  split
  · exact h
  · next hc =>
    rw [List.nodup_append]
    refine ⟨h, by simp, fun a ha b hb => ?_⟩
    simp at hb; subst hb
    rintro rfl
    exact hc (by simpa using ha)
theorem namesFrom_nodup : ∀ (l : List Int) {ns : List Int}, ns.Nodup → (namesFrom ns l).Nodup
  | [], _, h => h
  | x :: l, ns, h => namesFrom_nodup l (addName_nodup h x)
theorem mem_addName {ns : List Int} {x y : Int} : y ∈ addName ns x ↔ y ∈ ns ∨ y = x := by
  unfold addName
  split
  · next hc =>
    have hx : x ∈ ns := by simpa using hc
    exact ⟨.inl, fun h => h.elim id fun e => e ▸ hx⟩
  · simp
theorem mem_namesFrom : ∀ (l : List Int) {ns : List Int} {y : Int}, y ∈ namesFrom ns l ↔ y ∈ ns ∨ y ∈ l
  | [], ns, y => by simp [namesFrom]
  | x :: l, ns, y => by
    show y ∈ namesFrom (addName ns x) l ↔ _
    rw [mem_namesFrom l, mem_addName, List.mem_cons, or_assoc]
def namesOf (rs : Rows) : List Int := namesFrom [] rs.flatten
theorem mem_namesOf {rs : Rows} {y : Int} : y ∈ namesOf rs ↔ ∃ r ∈ rs, y ∈ r := by
  unfold namesOf
  rw [mem_namesFrom]
  simp
theorem namesOf_nodup (rs : Rows) : (namesOf rs).Nodup := namesFrom_nodup _ .nil
theorem namesOf_append (rs qs : Rows) : ∃ t, namesOf (rs ++ qs) = namesOf rs ++ t := by
  unfold namesOf
  rw [List.flatten_append]
  have : namesFrom [] (rs.flatten ++ qs.flatten) = namesFrom (namesFrom [] rs.flatten) qs.flatten := by simp [namesFrom]
  rw [this]
  exact namesFrom_ext _ _
theorem idx_lt {l t : List Int} {c y : Int} (hc : c ∈ l) (hy : y ∉ l) : (l ++ t).idxOf c < (l ++ t).idxOf y := by
  rw [List.idxOf_append, if_pos hc, List.idxOf_append, if_neg hy]
  have := List.idxOf_lt_length_iff.mpr hc
  omega

theorem idxOf_at {l : List Int} (hn : l.Nodup) {p : Nat} (hp : p < l.length) : l.idxOf l[p] = p := by
  have hm : l[p] ∈ l := List.getElem_mem hp
  have h1 := List.idxOf_lt_length_iff.mpr hm
  exact nodup_get hn (a := l[p]) (by rw [List.getElem?_eq_getElem h1, List.getElem_idxOf]) (List.getElem?_eq_getElem hp)
abbrev ix (rs : Rows) (x : Int) : Int := ((namesOf rs).idxOf x : Int)
def rkRows (rs : Rows) : Rows := rs.map fun r => r.map (ix rs)
theorem ix_inj {rs : Rows} {x y : Int} (hx : x ∈ namesOf rs) (hy : y ∈ namesOf rs) (e : ix rs x = ix rs y) : x = y := by
  have e' : (namesOf rs).idxOf x = (namesOf rs).idxOf y := by unfold ix at e; omega
  have h1 := List.getElem_idxOf (List.idxOf_lt_length_iff.mpr hx)
  have h2 := List.getElem_idxOf (List.idxOf_lt_length_iff.mpr hy)
  rw [← h1, ← h2]; congr 1
theorem ix_range {rs : Rows} {x : Int} (hx : x ∈ namesOf rs) : 0 ≤ ix rs x ∧ ix rs x < (namesOf rs).length := by
  have := List.idxOf_lt_length_iff.mpr hx
  unfold ix; omega
theorem prs_map (f : Int → Int) (r : List Int) : prs (r.map f) = (prs r).map fun p => (f p.1, f p.2) := by
  unfold prs
  rw [← List.map_tail]
  exact List.zip_map
theorem allPrs_map (f : Int → Int) (rs : Rows) : allPrs (rs.map fun r => r.map f) = (allPrs rs).map fun p => (f p.1, f p.2) := by
  unfold allPrs
  rw [List.flatMap_map, List.map_flatMap]
  congr 1
  funext r
  exact prs_map f r
theorem pr_names {rs : Rows} {p : Int × Int} (hp : p ∈ allPrs rs) : p.1 ∈ namesOf rs ∧ p.2 ∈ namesOf rs := by
  have t : Tc (allPrs rs) p.1 p.2 := .one hp
  exact ⟨mem_namesOf.mpr t.mem_left, mem_namesOf.mpr t.mem_right⟩
theorem tc_rk {rs : Rows} {x y : Int} (h : Tc (allPrs rs) x y) : Tc (allPrs (rkRows rs)) (ix rs x) (ix rs y) := by
  unfold rkRows
  rw [allPrs_map]
  induction h with
  | one hp => exact .one (List.mem_map.mpr ⟨_, hp, rfl⟩)
  | cons hp _ ih => exact .cons (List.mem_map.mpr ⟨_, hp, rfl⟩) ih
theorem tc_of_rk {rs : Rows} {a b : Int} (h : Tc (allPrs (rkRows rs)) a b) : ∃ x y, a = ix rs x ∧ b = ix rs y ∧ x ∈ namesOf rs ∧ y ∈ namesOf rs ∧ Tc (allPrs rs) x y := by
  unfold rkRows at h
  rw [allPrs_map] at h
  induction h with
  | one hp =>
    obtain ⟨p, hp', e⟩ := List.mem_map.mp hp
    cases e
    exact ⟨p.1, p.2, rfl, rfl, (pr_names hp').1, (pr_names hp').2, .one hp'⟩
  | cons hp _ ih =>
    obtain ⟨p, hp, e⟩ := List.mem_map.mp hp
    obtain ⟨x, y, e1, e2, n1, n2, t⟩ := ih
    simp only [Prod.mk.injEq] at e
    obtain ⟨e3, e4⟩ := e
    have : p.2 = x := ix_inj (pr_names hp).2 n1 (e4.trans e1)
    subst this
    exact ⟨p.1, y, e3.symm, e2, (pr_names hp).1, n2, .cons hp t⟩
theorem tc_rk_iff {rs : Rows} {x y : Int} (hx : x ∈ namesOf rs) (hy : y ∈ namesOf rs) : Tc (allPrs (rkRows rs)) (ix rs x) (ix rs y) ↔ Tc (allPrs rs) x y :=
  ⟨fun h => by
    obtain ⟨x', y', e1, e2, n1, n2, t⟩ := tc_of_rk h
    rwa [ix_inj hx n1 e1, ix_inj hy n2 e2], tc_rk⟩
theorem rk_prs (rs : Rows) : ∀ p ∈ allPrs (rkRows rs), (0 ≤ p.1 ∧ p.1 < ((namesOf rs).length : Int)) ∧ 0 ≤ p.2 ∧ p.2 < ((namesOf rs).length : Int) := fun p hp => by
  unfold rkRows at hp
  rw [allPrs_map] at hp
  obtain ⟨q, hq, rfl⟩ := List.mem_map.mp hp
  exact ⟨ix_range (pr_names hq).1, ix_range (pr_names hq).2⟩

/-- what stands ahead, by ranks -/
def aheadS (rs : Rows) : Nat → Int → Bool := War (setOf (allPrs (rkRows rs))) (namesOf rs).length
def aheadA (rs : Rows) (x m : Int) : Bool := aheadS rs x.toNat m
theorem aheadA_iff {rs : Rows} {a b : Int} (ha : 0 ≤ a) : aheadA rs a b = true ↔ Tc (allPrs (rkRows rs)) b a := by
  unfold aheadA aheadS
  rw [war_iff (rk_prs rs), Int.toNat_of_nonneg ha]
theorem aheadA_ix {rs : Rows} {x y : Int} (hx : x ∈ namesOf rs) (hy : y ∈ namesOf rs) : aheadA rs (ix rs x) (ix rs y) = true ↔ Tc (allPrs rs) y x := by
  rw [aheadA_iff (ix_range hx).1, tc_rk_iff hy hx]

/-- the least of the free ones by rank is picked -/
theorem pick_rank {rs : Rows} {U : List Int} {c y : Int} (hp : Pick (rs.map (cut U)) c) (hy : y ∉ U) (hcy : y ≠ c) (fy : Fre rs U y) : ix rs c < ix rs y := by
  have fc := hp.free
  have hc := hp.mem.2
  obtain ⟨P, row, Q, e, _, hheld⟩ := hp
  obtain ⟨P', Q', rfl, e1, e2⟩ := List.map_eq_append_iff.mp e
  obtain ⟨r', Q'', rfl, e3, e4⟩ := List.map_eq_cons_iff.mp e2
  have hcr : c ∈ r' := (mem_cut.mp (show c ∈ cut U r' by rw [e3]; exact .head _)).1
  have hyr : y ∉ r' := fun hyr => by
    obtain ⟨p, q, rfl⟩ := List.append_of_mem hyr
    rcases List.mem_append.mp hcr with h | h
    · exact hc (fy c ⟨_, List.mem_append_right _ (.head _), p, q, rfl, h⟩)
    · rcases List.mem_cons.mp h with h | h
      · exact hcy h.symm
      · obtain ⟨p2, q2, rfl⟩ := List.append_of_mem h
        exact hy (fc y ⟨_, List.mem_append_right _ (.head _), p ++ y :: p2, q2, by simp, by simp⟩)
  have hyP : ∀ r ∈ P', y ∉ r := fun r hr hyr => by
    have hyc : y ∈ cut U r := mem_cut.mpr ⟨hyr, hy⟩
    cases hcut : cut U r with
    | nil => rw [hcut] at hyc; cases hyc
    | cons d ds =>
      have hm : cut U r ∈ P := by rw [← e1]; exact List.mem_map.mpr ⟨r, hr, rfl⟩
      rw [hcut] at hyc
      rcases List.mem_cons.mp hyc with h | h
      · have := hheld _ hm d (by rw [hcut]; rfl)
        rw [← h] at this
        exact fy.not_held this
      · exact fy.not_held ⟨cut U r, List.mem_map.mpr ⟨r, by simp [hr], rfl⟩, by rw [hcut]; exact h⟩
  obtain ⟨t, ht⟩ := namesOf_append (P' ++ [r']) Q''
  have hrs : P' ++ r' :: Q'' = (P' ++ [r']) ++ Q'' := by simp
  unfold ix
  rw [hrs, ht]
  have := idx_lt (l := namesOf (P' ++ [r'])) (t := t) (c := c) (y := y) (mem_namesOf.mpr ⟨r', by simp, hcr⟩) (fun h => by
    obtain ⟨r, hr, hyr'⟩ := mem_namesOf.mp h
    rcases List.mem_append.mp hr with hr | hr
    · exact hyP r hr hyr'
    · simp at hr; subst hr; exact hyr hyr')
  omega

theorem idxOf_map_inj {f : Int → Int} : ∀ {l : List Int} {x : Int}, (∀ a ∈ l, f a = f x → a = x) → (l.map f).idxOf (f x) = l.idxOf x
  | [], x, _ => rfl
  | a :: l, x, h => by
    rw [List.map_cons, List.idxOf_cons, List.idxOf_cons]
    by_cases e : a = x
    · subst e; simp
    · have e' : f a ≠ f x := fun h' => e (h a (.head _) h')
      rw [show (f a == f x) = false by simpa using e', show (a == x) = false by simpa using e]
      simp only [cond_false]
      rw [idxOf_map_inj fun b hb => h b (.tail _ hb)]

section
variable {rs : Rows} {out : List Int} {rest : Rows} (hc : C3 rs out rest true)
include hc
theorem out_names {x : Int} : x ∈ out ↔ x ∈ namesOf rs := hc.all.trans mem_namesOf.symm
theorem idx_ix {x : Int} (hx : x ∈ namesOf rs) : (out.map (ix rs)).idxOf (ix rs x) = out.idxOf x := idxOf_map_inj fun a ha e => ix_inj ((out_names hc).mp ha) hx e
theorem greedy : Greedy (aheadA rs) (out.map (ix rs)) where
  trans := fun x y z h1 h2 => by
    by_cases hx : 0 ≤ x
    · have t1 := (aheadA_iff hx).mp h1
      obtain ⟨a, b, e1, e2, n1, n2, _⟩ := tc_of_rk t1
      have hy : 0 ≤ y := by rw [e1]; exact (ix_range n1).1
      exact (aheadA_iff hx).mpr (((aheadA_iff hy).mp h2).trans t1)
    · have hx0 : x.toNat = (0 : Int).toNat := by omega
      have h1' : aheadA rs 0 y = true := by unfold aheadA at h1 ⊢; rwa [hx0] at h1
      have t1 := (aheadA_iff (Int.le_refl 0)).mp h1'
      obtain ⟨a, b, e1, e2, n1, n2, _⟩ := tc_of_rk t1
      have hy : 0 ≤ y := by rw [e1]; exact (ix_range n1).1
      have := (aheadA_iff (Int.le_refl 0)).mpr (((aheadA_iff hy).mp h2).trans t1)
      unfold aheadA at this ⊢; rwa [hx0]
  lin := fun x m hx h => by
    obtain ⟨v, hv, rfl⟩ := List.mem_map.mp hx
    have hvn := (out_names hc).mp hv
    obtain ⟨a, b, e1, e2, n1, n2, t⟩ := tc_of_rk ((aheadA_iff (ix_range hvn).1).mp h)
    have hb : v = b := ix_inj hvn n2 e2
    subst hb e1
    have hao := (out_names hc).mpr n1
    refine ⟨List.mem_map.mpr ⟨a, hao, rfl⟩, ?_⟩
    rw [idx_ix hc n1, idx_ix hc hvn]
    have hlt := List.idxOf_lt_length_iff.mpr hv
    have e := split_at (show out[out.idxOf v]? = some v by rw [List.getElem?_eq_getElem hlt, List.getElem_idxOf])
    have hm := hc.keeps t e
    obtain ⟨p, hp, hpe⟩ := List.mem_take_iff_getElem.mp hm
    have : out.idxOf a = p := by
      have hp' : p < out.length := by omega
      have : out[p] = a := hpe
      rw [← this]; exact idxOf_at hc.nodup hp'
    omega
  gr := fun z q hz hq hlt hall => by
    obtain ⟨c, hco, rfl⟩ := List.mem_map.mp hz
    obtain ⟨y, hyo, rfl⟩ := List.mem_map.mp hq
    have hcn := (out_names hc).mp hco
    have hyn := (out_names hc).mp hyo
    rw [idx_ix hc hcn, idx_ix hc hyn] at hlt
    have hltl := List.idxOf_lt_length_iff.mpr hco
    have e := split_at (show out[out.idxOf c]? = some c by rw [List.getElem?_eq_getElem hltl, List.getElem_idxOf])
    have hp := hc.picks e
    refine pick_rank hp ?_ ?_ ?_
    · intro hm
      obtain ⟨p, hp, hpe⟩ := List.mem_take_iff_getElem.mp hm
      have : out.idxOf y = p := by
        have : out[p]'(by omega) = y := hpe
        rw [← this]; exact idxOf_at hc.nodup (by omega)
      omega
    · rintro rfl; omega
    · intro m hm
      have hmn : m ∈ namesOf rs := mem_namesOf.mpr hm.tc.mem_left
      have h1 := hall (ix rs m) ((aheadA_ix hyn hmn).mpr hm.tc)
      rw [idx_ix hc hmn, idx_ix hc hcn] at h1
      have hmo := (out_names hc).mpr hmn
      exact List.mem_take_iff_getElem.mpr ⟨out.idxOf m, by have := List.idxOf_lt_length_iff.mpr hmo; omega, List.getElem_idxOf _⟩
end
end Mine

namespace Mine

def KeysOk (rs : Rows) (K : Nat → List Int) : Prop := ∀ i, i < (namesOf rs).length → KeyOf (aheadA rs) i (fun j => aheadS rs i j || decide (j = i)) (K i)
theorem KeysOk.key {rs : Rows} {K : Nat → List Int} (h : KeysOk rs K) {x : Int} (hx : x ∈ namesOf rs) : KeyOf (aheadA rs) (ix rs x) (fun j => aheadA rs (ix rs x) j || decide (j = ix rs x)) (K (ix rs x).toNat) := by
  have hr := ix_range hx
  have := h (ix rs x).toNat (by omega)
  rw [Int.toNat_of_nonneg hr.1] at this
  exact this
/-- the ranks, as their keys are sorted, are the ranks of what is told -/
theorem ranks_sorted {rs : Rows} {out : List Int} {rest : Rows} (hc : C3 rs out rest true) {K : Nat → List Int} (hK : KeysOk rs K) {RB : List Nat} (hp : RB.Perm (List.range (namesOf rs).length)) (hs : RB.Pairwise fun i j => lexlt (K i) (K j) = true) :
    RB = out.map fun x => (namesOf rs).idxOf x := by
  have hnd := namesOf_nodup rs
  have hperm : out.Perm (namesOf rs) := perm_of_nodup _ _ hc.nodup hnd fun x => out_names hc
  refine eq_of_pairwise (R := fun i j => lexlt (K i) (K j) = true) (fun a b h h' => by rw [lexlt_asym _ _ h] at h'; cases h') (hp.trans ?_) hs ?_
  · refine (List.Perm.of_eq ?_).trans (hperm.symm.map fun x => (namesOf rs).idxOf x)
    exact (map_idxOf _ hnd).symm
  · rw [List.pairwise_map, List.pairwise_iff_getElem]
    intro i j hi hj hij
    have n1 := (out_names hc).mp (List.getElem_mem hi)
    have n2 := (out_names hc).mp (List.getElem_mem hj)
    have k1 := hK.key n1
    have k2 := hK.key n2
    have e1 : (ix rs out[i]).toNat = (namesOf rs).idxOf out[i] := Int.toNat_natCast _
    have e2 : (ix rs out[j]).toNat = (namesOf rs).idxOf out[j] := Int.toNat_natCast _
    rw [e1] at k1
    rw [e2] at k2
    refine (greedy hc).key_lt (List.mem_map.mpr ⟨_, List.getElem_mem hi, rfl⟩) (List.mem_map.mpr ⟨_, List.getElem_mem hj, rfl⟩) ?_ k1 k2
    rw [idx_ix hc n1, idx_ix hc n2, idxOf_at hc.nodup hi, idxOf_at hc.nodup hj]
    exact hij
theorem names_back {rs : Rows} {x : Int} (hx : x ∈ namesOf rs) : (namesOf rs)[(namesOf rs).idxOf x]? = some x := by
  have h1 := List.idxOf_lt_length_iff.mpr hx
  rw [List.getElem?_eq_getElem h1, List.getElem_idxOf]

theorem ahead_self {rs : Rows} {i : Nat} : aheadS rs i i = true ↔ ∃ x, x ∈ namesOf rs ∧ (i : Int) = ix rs x ∧ Tc (allPrs rs) x x := by
  have e : aheadS rs i i = aheadA rs i i := by unfold aheadA; rw [Int.toNat_natCast]
  rw [e, aheadA_iff (Int.natCast_nonneg i)]
  constructor
  · intro h
    obtain ⟨x, y, e1, e2, n1, n2, t⟩ := tc_of_rk h
    have := ix_inj n1 n2 (e1.symm.trans e2)
    subst this
    exact ⟨x, n1, e1, t⟩
  · rintro ⟨x, hx, e1, t⟩
    rw [e1]; exact tc_rk t
theorem rings_iff {rs : Rows} {out : List Int} {rest : Rows} {b : Bool} (hc : C3 rs out rest b) : ringL (aheadS rs) (namesOf rs).length = [] ↔ b = true := by
  rw [ringL_nil]
  constructor
  · intro hall
    cases b with
    | true => rfl
    | false =>
      obtain ⟨e, he⟩ := hc.false_ring
      have hn := mem_namesOf.mpr he.mem_left
      have := hall ((namesOf rs).idxOf e) (List.idxOf_lt_length_iff.mpr hn)
      rw [ahead_self.mpr ⟨e, hn, rfl, he⟩] at this
      cases this
  · intro hb i hi
    subst hb
    cases e : aheadS rs i i with
    | false => rfl
    | true =>
      obtain ⟨x, _, _, t⟩ := ahead_self.mp e
      exact absurd t (hc.true_no_ring x)

/-- what stays -/
def stayOf (rs : Rows) : List Int := (namesOf rs).filter fun x => !((ringL (aheadS rs) (namesOf rs).length).filter fun r => aheadS rs ((namesOf rs).idxOf x) r).isEmpty
theorem mem_ringL {S : Nat → Int → Bool} {n : Nat} {r : Int} : r ∈ ringL S n ↔ ∃ i : Nat, i < n ∧ S i i = true ∧ r = i := by
  unfold ringL
  simp only [List.mem_map, List.mem_filter, List.mem_range]
  constructor
  · rintro ⟨i, ⟨h1, h2⟩, rfl⟩; exact ⟨i, h1, h2, rfl⟩
  · rintro ⟨i, h1, h2, rfl⟩; exact ⟨i, ⟨h1, h2⟩, rfl⟩
theorem mem_stay {rs : Rows} {x : Int} (hx : x ∈ namesOf rs) : x ∈ stayOf rs ↔ ∃ e, Tc (allPrs rs) e e ∧ Tc (allPrs rs) e x := by
  unfold stayOf
  rw [List.mem_filter]
  constructor
  · rintro ⟨_, h⟩
    cases hf : (ringL (aheadS rs) (namesOf rs).length).filter fun r => aheadS rs ((namesOf rs).idxOf x) r with
    | nil => rw [hf] at h; cases h
    | cons r l =>
      have hr : r ∈ (ringL (aheadS rs) (namesOf rs).length).filter fun r => aheadS rs ((namesOf rs).idxOf x) r := by rw [hf]; exact .head _
      obtain ⟨h1, h2⟩ := List.mem_filter.mp hr
      obtain ⟨i, _, h3, rfl⟩ := mem_ringL.mp h1
      obtain ⟨e, hen, e1, t⟩ := ahead_self.mp h3
      refine ⟨e, t, ?_⟩
      rw [e1] at h2
      have h2' : aheadA rs (ix rs x) (ix rs e) = true := by unfold aheadA; rw [Int.toNat_natCast]; exact h2
      exact (aheadA_ix hx hen).mp h2'
  · rintro ⟨e, t1, t2⟩
    refine ⟨hx, ?_⟩
    have hen := mem_namesOf.mpr t1.mem_left
    have hm : ix rs e ∈ (ringL (aheadS rs) (namesOf rs).length).filter fun r => aheadS rs ((namesOf rs).idxOf x) r := by
      refine List.mem_filter.mpr ⟨mem_ringL.mpr ⟨(namesOf rs).idxOf e, List.idxOf_lt_length_iff.mpr hen, ahead_self.mpr ⟨e, hen, rfl, t1⟩, rfl⟩, ?_⟩
      have := (aheadA_ix hx hen).mpr t2
      unfold aheadA at this
      rwa [Int.toNat_natCast] at this
    cases hf : (ringL (aheadS rs) (namesOf rs).length).filter fun r => aheadS rs ((namesOf rs).idxOf x) r with
    | nil => rw [hf] at hm; cases hm
    | cons r l => rfl
theorem rest_stay {rs : Rows} {out : List Int} {rest : Rows} {b : Bool} (hc : C3 rs out rest b) : rest = rs.map fun r => r.filter fun x => (stayOf rs).contains x := by
  rw [hc.rest_eq]
  refine List.map_congr_left fun r hr => ?_
  unfold cut
  refine List.filter_congr fun x hx => ?_
  have hn : x ∈ namesOf rs := mem_namesOf.mpr ⟨r, hr, hx⟩
  rw [Bool.eq_iff_iff]
  rw [decide_eq_true_eq, List.contains_iff_mem, mem_stay hn]
  constructor
  · intro hxo
    cases b with
    | true => exact absurd (hc.all.mpr ⟨r, hr, hx⟩) hxo
    | false => exact hc.stuck_ring (r := cut out r) (by rw [hc.rest_eq]; exact List.mem_map.mpr ⟨r, hr, rfl⟩) (mem_cut.mpr ⟨hx, hxo⟩)
  · rintro ⟨e, t1, t2⟩ hxo
    obtain ⟨pre, post, eq⟩ := List.append_of_mem hxo
    have he := hc.keeps t2 eq
    exact hc.not_ring (by rw [eq]; exact List.mem_append_left _ he) t1
end Mine

namespace Mine

theorem S_last {C : Cx} {E : Value → Shared → Prop} {σ : AS} {value slice : Expr} {l : Addr} {vs : List PV} {v : PV} {Q : PV → AS → Prop} (hl : σ.hp l = some (.list (vs ++ [v]))) (h : Q v σ)
    (hs : ∀ t, subscripted slice false (.ref l) (.int (-1) t) = operate [.ref l, .int (-1) t] (getItem (.ref l) (.int (-1) t)) := by intro _; rfl) : ASub C value slice (.ref l) (.int (-1)) Q E σ := by
  refine S_neg hl (by omega) (by simp; omega) (by omega) ?_ h hs
  rw [show ((-1 : Int) + ((vs ++ [v]).length : Nat)).toNat = vs.length by simp; omega]
  simp

/-- the rows as they are built -/
structure RowsAt (hp : Addr → Option PO) (lr : Addr) (as : List Addr) (a : Addr) (rs : Rows) (r : List Int) : Prop where
  l : hp lr = some (.list (refs as ++ [.ref a]))
  at_ : At hp (as ++ [a]) (rs ++ [r])
  nd : (as ++ [a]).Nodup
  ne : lr ∉ as ++ [a]
theorem RowsAt.ext {hp hp' : Addr → Option PO} {lr : Addr} {as : List Addr} {a : Addr} {rs : Rows} {r : List Int} (h : RowsAt hp lr as a rs r) (e : Ext hp hp') : RowsAt hp' lr as a rs r := ⟨e _ _ h.l, h.at_.ext e, h.nd, h.ne⟩
theorem RowsAt.row {hp : Addr → Option PO} {lr : Addr} {as : List Addr} {a : Addr} {rs : Rows} {r : List Int} (h : RowsAt hp lr as a rs r) : hp a = some (.list (nums r)) := by
  have hl : as.length = rs.length := by have := h.at_.1; simp at this; exact this
  exact h.at_.2 as.length a r (by simp) (by rw [hl]; simp)
theorem RowsAt.put {hp : Addr → Option PO} {lr : Addr} {as : List Addr} {a : Addr} {rs : Rows} {r : List Int} (h : RowsAt hp lr as a rs r) (x : Int) : RowsAt (upd hp a (.list (nums (r ++ [x])))) lr as a rs (r ++ [x]) where
  l := upd_skip (fun e => h.ne (by rw [e]; simp)) h.l
  at_ := by
    have hn := h.nd
    rw [List.nodup_append] at hn
    exact (h.at_.left.skip (fun hm => hn.2.2 a hm a (by simp) rfl)).snoc upd_here
  nd := h.nd
  ne := h.ne
theorem RowsAt.add {hp : Addr → Option PO} {lr : Addr} {as : List Addr} {a : Addr} {rs : Rows} {r : List Int} (h : RowsAt hp lr as a rs r) {d : Addr} (hd : hp d = none) :
    RowsAt (upd (upd hp d (.list [])) lr (.list (refs (as ++ [a]) ++ [.ref d]))) lr (as ++ [a]) d (rs ++ [r]) [] := by
  have hdn : d ∉ as ++ [a] := fun hm => by
    obtain ⟨_, _, h'⟩ := h.at_.mem hm
    rw [hd] at h'; cases h'
  have hdl : d ≠ lr := fun e => by rw [e, h.l] at hd; cases hd
  refine ⟨upd_here, ?_, ?_, ?_⟩
  · refine ((h.at_.skip hdn).skip h.ne).snoc (upd_skip hdl upd_here)
  · rw [List.nodup_append]
    refine ⟨h.nd, by simp, fun x hx y hy => ?_⟩
    simp at hy; subst hy
    rintro rfl; exact hdn hx
  · intro hm
    rcases List.mem_append.mp hm with hm | hm
    · exact h.ne hm
    · simp at hm; exact hdl hm.symm

def thingOf (x : Int) : Int := (x.fmod 192).fmod 12
theorem thingOf_range (x : Int) : 0 ≤ thingOf x ∧ thingOf x < 12 := ⟨Int.fmod_nonneg_of_pos _ (by omega), Int.fmod_lt_of_pos _ (by omega)⟩
end Mine

namespace Mine

theorem comp_newR {C : Cx} {sc : Scope} {x : Str} {elt : Expr} {Q : PV → AS → Prop} {p : PV} {σ : AS} {vs : List PV} {Ok : AS → Prop}
    (it : Iterable C p Ok (· = vs)) (ok : ∀ hp, Ext σ.hp hp → Ok ⟨σ.loc, hp⟩) (hsz : vs.length ≤ sizeLine) (R : PV → PO → Prop)
    (turn : ∀ v ∈ vs, ∀ hp C' E', Ext σ.hp hp → CompCx C sc C' → AV C' (eval elt C'.env) (fun w σ'' => ∃ d, w = .ref d ∧ hp d = none ∧ Ext hp σ''.hp ∧ ∃ o, σ''.hp d = some o ∧ R v o) E' ⟨updS (locC sc σ.loc) x v, hp⟩)
    (last : ∀ hp D ds, Ext σ.hp hp → hp D = none → ds.length = vs.length → ds.Nodup → (∀ d ∈ ds, σ.hp d = none) → (∀ (i : Nat) d v, ds[i]? = some d → vs[i]? = some v → ∃ o, hp d = some o ∧ R v o) → Q (.ref D) ⟨σ.loc, upd hp D (.list (refs ds))⟩) :
    CompGives C sc x [] elt Q p σ := by
  refine ⟨Ok, _, it, ok _ (Ext.refl _), fun vs' e => ?_⟩
  subst e
  refine ⟨hsz, fun i acc hp => Ext σ.hp hp ∧ i ≤ vs'.length ∧ ∃ ds, acc = refs ds ∧ ds.length = i ∧ ds.Nodup ∧ (∀ d ∈ ds, σ.hp d = none) ∧ ∀ (j : Nat) d v, ds[j]? = some d → vs'[j]? = some v → ∃ o, hp d = some o ∧ R v o,
    ⟨Ext.refl _, Nat.zero_le _, [], rfl, rfl, .nil, (by intro d hd; cases hd), (by intro j d v hd; simp at hd)⟩, fun i acc hp h => ok hp h.1, ?_, ?_⟩
  · rintro i acc hp v C' E' hv ⟨h1, hi, ds, rfl, hlen, hnd, hnone, hall⟩ hC
    show AV C' (eval elt C'.env) _ E' _
    refine (turn v (List.mem_of_getElem? hv) hp C' E' h1 hC).mono ?_
    rintro w σ'' ⟨d, rfl, hd, hext, hobj⟩
    have hlt := (List.getElem?_eq_some_iff.mp hv).1
    have hdn : ∀ e ∈ ds, hp e ≠ none := by
      intro e he hne
      obtain ⟨j, hj⟩ := List.mem_iff_getElem?.mp he
      have hjl := (List.getElem?_eq_some_iff.mp hj).1
      obtain ⟨u, hu⟩ : ∃ u, vs'[j]? = some u := ⟨vs'[j]'(by omega), List.getElem?_eq_getElem (by omega)⟩
      obtain ⟨o, ho, _⟩ := hall j e u hj hu
      rw [ho] at hne; cases hne
    refine ⟨h1.trans hext, hlt, ds ++ [d], by simp [refs], by simp [hlen], ?_, ?_, ?_⟩
    · rw [List.nodup_append]
      refine ⟨hnd, by simp, fun a ha b hb => ?_⟩
      simp at hb; subst hb
      rintro rfl
      exact hdn a ha hd
    · intro e he
      rcases List.mem_append.mp he with he | he
      · exact hnone e he
      · simp at he; subst he
        cases e' : σ.hp e with
        | none => rfl
        | some o => rw [h1 e o e'] at hd; cases hd
    · intro j e u he hu
      by_cases hj : j < ds.length
      · rw [List.getElem?_append_left hj] at he
        obtain ⟨o, ho, hR⟩ := hall j e u he hu
        exact ⟨o, hext _ _ ho, hR⟩
      · have hj' : ds.length ≤ j := Nat.not_lt.mp hj
        rw [List.getElem?_append_right hj'] at he
        have hje : j = i := by have := (List.getElem?_eq_some_iff.mp he).1; simp at this; omega
        subst hje
        rw [hlen] at he
        simp at he; subst he
        rw [hv] at hu; cases hu
        exact hobj
  · rintro acc hp D ⟨h1, _, ds, rfl, hlen, hnd, hnone, hall⟩ hD
    exact last hp D ds h1 hD hlen hnd hnone hall


theorem AV_and2 {C : Cx} {E : Value → Shared → Prop} {σ : AS} {x y : Expr} {pos : Pos} {Q : PV → AS → Prop}
    (h : AV C (eval x C.env) (fun p σ₁ => ATr C p (fun b σ₂ => if b = true then AV C (eval y C.env) Q E σ₂ else Q p σ₂) E σ₁) E σ) : AV C (eval (.BoolOp .And [x, y] pos) C.env) Q E σ := fun s hr =>
  wpAny_And2 (wpAG (h s hr) (fun u s₁ p σ₁ hu r₁ h₁ => wpAG (h₁ u hu s₁ r₁) (fun t s₂ b σ₂ ht r₂ h₂ => by
    subst ht
    cases b with
    | true => exact h₂ s₂ r₂
    | false => exact ⟨p, σ₂, hu, r₂, h₂⟩) fun _ _ e => e) fun _ _ e => e)

/-- what is due, where there is no ring -/
def DueOk (rs : Rows) (due : List Int) : Prop := ∃ (K : Nat → List Int) (RB : List Nat), KeysOk rs K ∧ RB.Perm (List.range (namesOf rs).length) ∧ RB.Pairwise (fun i j => lexlt (K i) (K j) = true) ∧ due = RB.map fun i => (namesOf rs).getD i 0
theorem DueOk.eq {rs : Rows} {due out : List Int} {rest : Rows} (h : DueOk rs due) (hc : C3 rs out rest true) : due = out := by
  obtain ⟨K, RB, hK, hp, hs, rfl⟩ := h
  rw [ranks_sorted hc hK hp hs, List.map_map]
  refine (List.map_congr_left fun x hx => ?_).trans (List.map_id _)
  have hn := (out_names hc).mp hx
  show (namesOf rs).getD _ 0 = id x
  rw [List.getD_eq_getElem?_getD, names_back hn]; rfl
theorem dueOk_of {rs : Rows} {ks bs : List Addr} {cur : Addr → List Int} (hnd : ks.Nodup) (hlen : ks.length = (namesOf rs).length)
    (hk : ∀ (i : Nat) a, ks[i]? = some a → KeyOf (aheadA rs) i (fun j => aheadS rs i j || decide (j = i)) (cur a)) (hp : bs.Perm ks) (hs : bs.Pairwise fun a b => lexlt (cur a) (cur b) = true) :
    DueOk rs (bs.map fun b => (namesOf rs).getD (ks.idxOf b) 0) := by
  have hb : ∀ b ∈ bs, ks.getD (ks.idxOf b) 0 = b := fun b hb => by
    have h1 := List.idxOf_lt_length_iff.mpr (hp.mem_iff.mp hb)
    rw [List.getD_eq_getElem?_getD, List.getElem?_eq_getElem h1, List.getElem_idxOf]; rfl
  refine ⟨fun i => cur (ks.getD i 0), bs.map fun b => ks.idxOf b, ?_, ?_, ?_, by rw [List.map_map]; rfl⟩
  · intro i hi
    show KeyOf _ _ _ (cur (ks.getD i 0))
    rw [List.getD_eq_getElem?_getD, List.getElem?_eq_getElem (by omega)]
    exact hk i _ (List.getElem?_eq_getElem (by omega))
  · refine (hp.map _).trans (.of_eq ?_)
    rw [← hlen]
    exact map_idxOf _ hnd
  · rw [List.pairwise_map]
    refine hs.imp_of_mem fun {a b} ha hb' h => ?_
    show lexlt (cur _) (cur _) = true
    rw [hb a ha, hb b hb']; exact h

structure P1 (rs : Rows) : Prop where
  rng : ∀ r ∈ rs, ∀ x ∈ r, 0 ≤ x ∧ x < 12
  two : 2 ≤ (namesOf rs).length
  twelve : (namesOf rs).length ≤ 12
  len : rs.length ≤ 48
  each : ∀ r ∈ rs, r.length ≤ 47
theorem P1.nrng {rs : Rows} (h : P1 rs) : ∀ x ∈ namesOf rs, 0 ≤ x ∧ x < 12 := fun x hx => by
  obtain ⟨r, hr, hx⟩ := mem_namesOf.mp hx
  exact h.rng r hr x hx
theorem p1_of {rs : Rows} {xs : List Int} (h : rs.flatten = (xs ++ [21, 6, 3, 6, 9, 1, 6]).map thingOf) (h1 : rs.length ≤ 48) (h2 : ∀ r ∈ rs, r.length ≤ 47) : P1 rs := by
  have hr : ∀ r ∈ rs, ∀ x ∈ r, 0 ≤ x ∧ x < 12 := fun r hr x hx => by
    have : x ∈ rs.flatten := List.mem_flatten.mpr ⟨r, hr, hx⟩
    rw [h] at this
    obtain ⟨y, _, rfl⟩ := List.mem_map.mp this
    exact thingOf_range y
  have hn : ∀ y ∈ [21, 6, 3, 6, 9, 1, (6 : Int)], thingOf y ∈ namesOf rs := fun y hy => by
    have : thingOf y ∈ rs.flatten := by rw [h]; exact List.mem_map.mpr ⟨y, List.mem_append_right _ hy, rfl⟩
    obtain ⟨r, hr, hx⟩ := List.mem_flatten.mp this
    exact mem_namesOf.mpr ⟨r, hr, hx⟩
  have h6 : (6 : Int) ∈ namesOf rs := hn 6 (by simp)
  have h9 : (9 : Int) ∈ namesOf rs := hn 9 (by simp)
  refine ⟨hr, ?_, ?_, h1, h2⟩
  · rcases hm : namesOf rs with _ | ⟨a, _ | ⟨b, l⟩⟩
    · rw [hm] at h6; cases h6
    · rw [hm] at h6 h9; simp at h6 h9; omega
    · simp
  · have hsub : ∀ x ∈ namesOf rs, x ∈ (List.range 12).map fun (k : Nat) => (k : Int) := fun x hx => by
      obtain ⟨r, hr', hx⟩ := mem_namesOf.mp hx
      have := hr r hr' x hx
      exact List.mem_map.mpr ⟨x.toNat, List.mem_range.mpr (by omega), by omega⟩
    have := nodup_le _ _ (namesOf_nodup rs) hsub
    simpa using this
theorem ahead_range {rs : Rows} {i : Nat} {j : Int} (h : aheadS rs i j = true) : 0 ≤ j ∧ j < (namesOf rs).length := by
  have e : aheadS rs i j = aheadA rs i j := by unfold aheadA; rw [Int.toNat_natCast]
  rw [e, aheadA_iff (Int.natCast_nonneg i)] at h
  obtain ⟨x, y, rfl, _, hx, _, _⟩ := tc_of_rk h
  exact ix_range hx

/-- the state behind the rings -/
structure St1 (σ : AS) (lr ln la lg : Addr) (as ds : List Addr) (rs : Rows) : Prop where
  l1 : σ.loc (Str.ofString "rows") = some (.ref lr)
  l2 : σ.loc (Str.ofString "names") = some (.ref ln)
  l3 : σ.loc (Str.ofString "ahead") = some (.ref la)
  l4 : σ.loc (Str.ofString "rings") = some (.ref lg)
  h1 : σ.hp lr = some (.list (refs as))
  at_ : At σ.hp as rs
  h2 : σ.hp ln = some (.list (nums (namesOf rs)))
  h3 : σ.hp la = some (.list (refs ds))
  dl : ds.length = (namesOf rs).length
  ss : SetsAt σ.hp ds (aheadS rs)
  h4 : σ.hp lg = some (.list (nums (ringL (aheadS rs) (namesOf rs).length)))
theorem St1.ext {σ σ' : AS} {lr ln la lg : Addr} {as ds : List Addr} {rs : Rows} (h : St1 σ lr ln la lg as ds rs) (e : Ext σ.hp σ'.hp) {ns : List Str} (s : SameL σ σ' ns)
    (hn : Str.ofString "rows" ∉ ns ∧ Str.ofString "names" ∉ ns ∧ Str.ofString "ahead" ∉ ns ∧ Str.ofString "rings" ∉ ns) : St1 σ' lr ln la lg as ds rs :=
  ⟨s.get h.l1 hn.1, s.get h.l2 hn.2.1, s.get h.l3 hn.2.2.1, s.get h.l4 hn.2.2.2, e _ _ h.h1, h.at_.ext e, e _ _ h.h2, e _ _ h.h3, h.dl, h.ss.ext e, e _ _ h.h4⟩

def selF (p : Int → Bool) : PV → Option PV
  | .int x => if p x then some (.int x) else none
  | _ => none
theorem selF_map (p : Int → Bool) (l : List Int) : (nums l).filterMap (selF p) = nums (l.filter p) := by
  induction l with
  | nil => rfl
  | cons x l ih =>
    rw [nums_cons, List.filterMap_cons, List.filter_cons, ih]
    simp only [selF]
    cases p x <;> rfl
def cutOf (hp : Addr → Option PO) (p : Int → Bool) : PV → PO
  | .ref a => .list (nums ((curOf hp a).filter p))
  | _ => .list []
theorem cuts_at {hp hp' : Addr → Option PO} {as ds : List Addr} {rs : Rows} {p : Int → Bool} (h : At hp as rs) (hl : ds.length = (refs as).length) (hall : ∀ (i : Nat) d v, ds[i]? = some d → (refs as)[i]? = some v → hp' d = some (cutOf hp p v)) : At hp' ds (rs.map fun r => r.filter p) := by
  rw [refs_length] at hl
  refine ⟨by rw [List.length_map]; exact hl.trans h.1, fun i d r hd hr => ?_⟩
  have hi : i < as.length := by have := (List.getElem?_eq_some_iff.mp hd).1; omega
  have ha : as[i]? = some as[i] := List.getElem?_eq_getElem hi
  rw [hall i d (.ref as[i]) hd (by unfold refs; rw [List.getElem?_map, ha]; rfl)]
  rw [List.getElem?_map] at hr
  obtain ⟨q, hq, rfl⟩ := Option.map_eq_some_iff.mp hr
  show some (PO.list (nums ((curOf hp as[i]).filter p))) = _
  rw [curOf_at (h.2 i _ q ha hq)]
def dueF (rs : Rows) (ks : List Addr) : PV → Option PV
  | .ref b => some (.int ((namesOf rs).getD (ks.idxOf b) 0))
  | _ => none
theorem dueF_map (rs : Rows) (ks bs : List Addr) : (refs bs).filterMap (dueF rs ks) = nums (bs.map fun b => (namesOf rs).getD (ks.idxOf b) 0) := by
  induction bs with
  | nil => rfl
  | cons b bs ih => show ((PV.ref b) :: refs bs).filterMap _ = _; rw [List.filterMap_cons, ih]; rfl
end Mine

namespace Mine
set_option compiler.extract_closed false
local macro_rules | `(tactic| tm_at "loc") => `(tactic| first
  | with_reducible exact loc_here
  | (with_reducible refine loc_skip ?_ ?_; (decide); (tm_at "loc"))
  | (with_reducible refine loc_pt ?_; (tm_at "loc"))
  | with_reducible exact updS_here
  | (with_reducible refine updS_skip ?_ ?_; (decide); (tm_at "loc"))
  | with_reducible assumption
  | ((with_reducible refine locC_free ?_ ?_); (with_unfolding_all rfl); (tm_at "loc"))
  | (with_reducible refine loc_at (pv_int ?_); first | rfl | omega))
local macro_rules | `(tactic| tm_at "hp") => `(tactic| first
  | with_reducible exact hp_here
  | with_reducible assumption
  | (with_reducible refine hp_st ?_; (tm_at "hp"))
  | (with_reducible refine hp_new ?_ ?_; (with_reducible assumption); (tm_at "hp"))
  | (with_reducible refine hp_skip ?_ ?_; (with_reducible assumption); (tm_at "hp"))
  | with_reducible exact upd_here
  | (with_reducible refine upd_new ?_ ?_; (with_reducible assumption); (tm_at "hp"))
  | (with_reducible refine upd_skip ?_ ?_; (with_reducible assumption); (tm_at "hp")))
local macro_rules | `(tactic| tm_at "size") => `(tactic| first | (with_reducible assumption) | (refine line_ok ?_; (try simp only [nums_length, List.length_map, List.length_append, List.length_cons, List.length_nil, List.length_drop, List.length_take]); omega))
local macro_rules | `(tactic| tm_at "aw") => `(tactic| first
  | with_reducible refine AF_cons ?_
  | with_reducible refine AF_nil ?_
  | ((with_reducible show AG _ _ (exec (Stmt.Assign [Expr.Name _ _] (Expr.ListComp _ _ _ _) _) _) _ _ _); fail "comp")
  | ((with_reducible show AG _ _ (exec (Stmt.Assign [Expr.Name _ _] _ _) _) _ _ _); refine AF_assign ?_)
  | ((with_reducible show AG _ _ (exec (Stmt.Assign [Expr.Subscript _ _ _] _ _) _) _ _ _); refine AF_setItem ?_)
  | with_reducible refine AF_if ?_
  | with_reducible refine AF_return ?_
  | with_reducible refine AF_break ?_
  | with_reducible refine AF_del ?_
  | ((with_reducible show AG _ _ (exec (Stmt.Expr _ _) _) _ _ _); refine AF_expr ?_)
  | with_reducible refine AV_int ?_
  | with_reducible refine AV_str ?_
  | with_reducible refine AV_none ?_
  | with_reducible refine AV_bool ?_
  | ((with_reducible show AG _ _ (eval (Expr.Name _ _) _) _ _ _); first
      | (refine' AV_name ?k1 ?_; (case k1 => tm_at "loc"))
      | (refine' AV_glob ?k1 ?k2 ?_; (case k1 => exact In.g (by with_reducible assumption) rfl); (case k2 => exact In.gt (by with_reducible assumption) (by with_reducible assumption))))
  | with_reducible refine AV_binop ?_
  | ((with_reducible show AG _ _ (eval (Expr.Compare _ [_] [_] _) _) _ _ _); refine AV_compare ?_)
  | with_reducible refine AV_unary ?_
  | ((with_reducible show AG _ _ (isTrue (Expr.Compare _ [_] [_] _) _ _) _ _ _); refine AB_compare ?_)
  | with_reducible refine AB_and ?_
  | with_reducible refine AB_or ?_
  | with_reducible refine AB_not ?_
  | ((with_reducible show AG _ _ (isTrue (Expr.Name _ _) _ _) _ _ _); refine AB_value ?_ (by rfl))
  | ((with_reducible show AG _ _ (isTrue (Expr.Constant _ _ _) _ _) _ _ _); refine AB_value ?_ (by rfl))
  | ((with_reducible show AG _ _ (isTrue (Expr.Call _ _ _ _) _ _) _ _ _); refine AB_value ?_ (by rfl))
  | with_reducible refine AB_and_cons ?_
  | with_reducible refine AB_or_cons ?_
  | with_reducible refine AB_and_nil ?_
  | with_reducible refine AB_or_nil ?_
  | with_reducible refine AV_slice ?_
  | with_reducible refine AV_subscript ?_
  | (with_reducible refine AOpt_none ?_)
  | (with_reducible refine AOpt_some ?_)
  | ((with_reducible show AG _ _ (eval (Expr.List _ _) _) _ _ _); refine AV_list ?_)
  | (with_reducible refine AVL_cons ?_)
  | (with_reducible refine AVL_nil ?_)
  | ((with_reducible show AG _ _ (eval (Expr.Call (Expr.Name _ _) _ [] _) _) _ _ _); refine AV_call ?_)
  | ((with_reducible show AG _ _ (eval (Expr.Call (Expr.Attribute _ _ _) _ [] _) _) _ _ _); refine AV_method ?_ (by rfl))
  | with_reducible refine B_sub ?_
  | (with_reducible refine B_mod ?_ ?_; (decide))
  | (with_reducible refine B_div ?_ ?_ ?_; (decide); (decide))
  | with_reducible refine B_neg ?_
  | with_reducible refine B_lei ?_
  | with_reducible refine B_eqi ?_
  | with_reducible refine B_nei ?_
  | with_reducible refine B_isNone ?_
  | with_reducible refine AT_bool ?_
  | (with_reducible refine And.intro (a := (Cx.wr _ _ = true)) ?_ ?_; (exact In.w (by with_reducible assumption) rfl))
  | (with_reducible refine ⟨_, rfl, keeper_builtin, ?_⟩)
  | (with_reducible refine ⟨_, rfl, keeper_type, ?_⟩)
  | (with_reducible refine' A_len ?k1 ?k2 ?_; (case k1 => tm_at "hp"); (case k2 => tm_at "size"))
  | (with_reducible refine' T_list ?k1 ?k2 ?_; (case k1 => tm_at "hp"); (case k2 => tm_at "size"))
  | (with_reducible refine' B_eqL ?k1 ?k2 ?_; (case k1 => tm_at "hp"); (case k2 => tm_at "hp"))
  | (with_reducible refine' B_neL ?k1 ?k2 ?_; (case k1 => tm_at "hp"); (case k2 => tm_at "hp"))
  | (with_reducible refine' B_in ?k1 ?_; (case k1 => tm_at "hp"))
  | (with_reducible refine' B_notIn ?k1 ?_; (case k1 => tm_at "hp"))
  | (with_reducible refine' SliceIs.num ?k1 ?k2 ?k3 ?k4 ?k5 ?k6 ?_; (case k1 => tm_at "hp"); (case k2 => first | exact PartR.none | exact PartR.int _); (case k3 => first | exact PartR.none | exact PartR.int _); (case k4 => intro a e; cases e <;> omega); (case k5 => intro a e; cases e <;> omega); (case k6 => tm_at "size"); intro dN hN)
  | (with_reducible refine' SliceIs.any ?k1 ?k2 ?k3 ?k4 ?k5 ?k6 ?_; (case k1 => tm_at "hp"); (case k2 => first | exact PartR.none | exact PartR.int _); (case k3 => first | exact PartR.none | exact PartR.int _); (case k4 => intro a e; cases e <;> omega); (case k5 => intro a e; cases e <;> omega); (case k6 => tm_at "size"); intro dN hN)
  | (with_reducible refine' And.intro (a := (List.length _ ≤ sizeLine)) ?k1 ?_; (case k1 => tm_at "size"); intro dN hN)
  | (with_reducible refine' B_addL ?k1 ?k2 ?k3 ?_; (case k1 => tm_at "hp"); (case k2 => tm_at "hp"); (case k3 => tm_at "size"); intro dN hN)
  | (with_reducible refine ite_t rfl ?_)
  | (with_reducible refine ite_f rfl ?_)
  )

local macro_rules | `(tactic| tm_at "aw") => `(tactic| first
  | ((with_reducible show ASub _ _ _ (PV.ref _) (PV.int _) _ _ _); refine' S_get ?k1 ?k2 ?k3 ?k4 ?_; (case k1 => tm_at "hp"); (case k2 => first | decide | omega); (case k3 => first | decide | omega); (case k4 => first | rfl | (with_reducible assumption)))
  | (with_reducible refine' Exists.intro "list.append" (And.intro (M_append ?k1) ?_); (case k1 => tm_at "hp"))
  | (with_reducible refine' A_append ?k1 ?k2 ?_; (case k1 => tm_at "hp"); (case k2 => tm_at "size"))
  | (with_reducible refine And.intro (a := (PV.none = PV.none)) rfl ?_)
  | (with_reducible refine' D_head ?k1 ?k2 ?_; (case k1 => tm_at "hp"); (case k2 => first | (with_reducible assumption) | (refine Nat.lt_of_lt_of_le ?_ (line_ok (Nat.le_refl 1000000)); (try simp only [nums_length]); omega)))
  )

local macro_rules | `(tactic| tm_at "aw") => `(tactic| first
  | (with_reducible refine' T_list ?k1 ?k2 ?_; (case k1 => tm_at "hp"); (case k2 => first | (tm_at "size") | (refine line_ok ?_; simp only [refs_length]; omega)))
  )
local macro_rules | `(tactic| tm_at "aw") => `(tactic| first
  | (with_reducible refine A_range1 ?_; intro dN hN)
  | (with_reducible refine A_range2 ?_; intro dN hN)
  | (with_reducible refine A_set0 ?_; intro dN hN)
  | (with_reducible refine' B_inS ?k1 ?_; (case k1 => tm_at "hp"))
  | (with_reducible refine' B_orS ?k1 ?k2 ?_; (case k1 => tm_at "hp"); (case k2 => tm_at "hp"); intro dN hN)
  )
local macro_rules | `(tactic| tm_at "aw") => `(tactic| first
  | ((with_reducible show AG _ _ (eval (Expr.Set [_] _ _) _) _ _ _); refine AV_set1 ?_; intro dN hN)
  )
local macro_rules | `(tactic| tm_at "loc") => `(tactic| (dsimp only; (tm_at "loc")))
local macro_rules | `(tactic| tm_at "hp") => `(tactic| (dsimp only; (tm_at "hp")))

abbrev fC3 (a : Addr) : Fn := fnAt PySem.Challenge.pw_kr0004_01 1 a
abbrev incon : Str := Str.ofString "Inconsistent hierarchy"

set_option maxRecDepth 100000 in
set_option maxHeartbeats 4000000 in
theorem c3_body {G : Gl} {C : Cx} {E'} {σ : AS} {fa l : Addr} {as : List Addr} {cur : Addr → List Int} {Q : PF → AS → Prop} {P : AS → Prop} (hF : In G (fC3 fa) C)
    (hrt : G.gt (Str.ofString "RuntimeError") = some (.type "RuntimeError"))
    (hl : σ.loc (Str.ofString "sequences") = some (.ref l)) (hs : σ.hp l = some (.list (refs as))) (nd : as.Nodup) (hat : AtF σ.hp as cur)
    (b1 : as.length ≤ 1000) (b2 : total (as.map cur) ≤ 100000)
    (hraise : ∀ σ₁ s₁ h' e tok, Rel C σ₁ s₁ → Heap.MadeExcOf s₁.heap h' e (.type "RuntimeError") [.str incon tok] → P σ₁ →
      notedBy (model C.G.prog C.G.w) C.A C.env (cameBackBy (model C.G.prog C.G.w) C.A C.env E') (.ref e) { s₁ with heap := h' })
    (hP : ∀ out cur' σ', C3 (as.map cur) out (as.map cur') false → Fx as σ.hp σ'.hp → AtF σ'.hp as cur' → P σ')
    (hQ : ∀ d out cur' σ', C3 (as.map cur) out (as.map cur') true → Fx as σ.hp σ'.hp → AtF σ'.hp as cur' → σ.hp d = none → σ'.hp d = some (.list (nums out)) → Q (.ret (.ref d)) σ')
    : AF C (execs (fC3 fa).body C.env) Q E' σ := by
  refine AF_cons ?_
  repeat (tm_at "aw")
  rename_i res hres
  refine AF_whileE (fun n σ' => ∃ (sq : List Addr) (cur' : Addr → List Int) (out : List Int) (l' : Addr), total (as.map cur') = n ∧ out.length + n ≤ 100000 ∧ sq.length ≤ 1000 ∧ (∀ a ∈ sq, a ∈ as) ∧
    sq.filter (live cur') = as.filter (live cur') ∧ σ'.loc (Str.ofString "sequences") = some (.ref l') ∧ σ'.loc (Str.ofString "result") = some (.ref res) ∧ σ'.hp l' = some (.list (refs sq)) ∧
    σ'.hp res = some (.list (nums out)) ∧ Fx as σ.hp σ'.hp ∧ AtF σ'.hp as cur' ∧ ∀ o rest b, C3 (as.map cur') o rest b → C3 (as.map cur) (out ++ o) rest b) (total (as.map cur)) ?_ ?_
  · exact ⟨as, cur, [], l, rfl, by simpa using b2, b1, fun _ h => h, rfl, by tm_at "loc", by tm_at "loc", by tm_at "hp", hp_here, (Fx.refl _ _).upd (.inr hres), hat.ext ((Ext.refl _).pt hres), fun _ _ _ h => h⟩
  rintro n σ₁ ⟨sq, cur₁, out, l₁, hn, hlen, hsq, hsub, hfil, hls, hlr, hhl, hhr, hfx, hat₁, hc3⟩
  repeat (tm_at "aw")
  have hresas : res ∉ as := fun hm => by have := hat res hm; rw [hres] at this; cases this
  refine AF_assign_listComp hF.comp (hF.w rfl) ?_
  repeat (tm_at "aw")
  refine comp_pure (iter_list hF.hd) (fun hp e => e _ _ hhl) (line_ok (by simp; omega)) (liveRef cur₁) ?_ ?_
  · intro v hv hp C' E'' hext hC
    obtain ⟨a, ha, rfl⟩ := List.mem_map.mp hv
    have hpa := hext _ _ (hat₁ a (hsub a ha))
    have hla : (cur₁ a).length ≤ 100000 := by have := len_le_total (cur := cur₁) (hsub a ha); omega
    show AB C' _ _ E'' _
    repeat (tm_at "aw")
    rw [show (!(nums (cur₁ a)).isEmpty) = live cur₁ a by simp [nums, live]]
    cases e : live cur₁ a with
    | true =>
      rw [if_pos rfl]
      repeat (tm_at "aw")
      exact ⟨Ext.refl _, by simp [liveRef, e]⟩
    | false =>
      rw [if_neg (by decide)]
      exact ⟨Ext.refl _, by simp [liveRef, e]⟩
  rw [filterMap_live, hfil]
  intro hp D hext hD
  generalize hsq₂ : as.filter (live cur₁) = sq₂
  have hat₂ := hat₁.ext hext
  have hDas : D ∉ as := fun hm => by have := hat₂ D hm; rw [hD] at this; cases this
  have hl2 : sq₂.length ≤ 1000 := by rw [← hsq₂]; exact Nat.le_trans (List.length_filter_le _ _) b1
  have hx2 : Ext σ₁.hp (upd hp D (.list (refs sq₂))) := hext.trans ((Ext.refl _).upd hD)
  have hres₂ : (upd hp D (.list (refs sq₂))) res = some (.list (nums out)) := hx2 _ _ hhr
  have hat₃ := hat₁.ext hx2
  have hfx₂ := hfx.ext hx2
  have hnres : D ≠ res := by rintro rfl; rw [hext _ _ hhr] at hD; cases hD
  generalize hgp : upd hp D (.list (refs sq₂)) = hp₂ at hx2 hres₂ hat₃ hfx₂ ⊢
  have hD₂ : hp₂ D = some (.list (refs sq₂)) := by rw [← hgp]; exact upd_here
  have hsub₂ : ∀ a ∈ sq₂, a ∈ as ∧ live cur₁ a = true := fun a ha => by rw [← hsq₂] at ha; exact List.mem_filter.mp ha
  repeat (tm_at "aw")
  cases hsq0 : sq₂ with
  | nil =>
    subst hsq0
    refine ite_t rfl ?_
    repeat (tm_at "aw")
    refine hQ res out cur₁ _ ?_ hfx₂ hat₃ hres hres₂
    have := hc3 [] (as.map cur₁) true (.done fun r hr => by
      obtain ⟨a, ha, rfl⟩ := List.mem_map.mp hr
      have h0 : a ∉ as.filter (live cur₁) := by rw [hsq₂]; exact List.not_mem_nil
      cases e : cur₁ a with
      | nil => rfl
      | cons x xs => exact absurd (List.mem_filter.mpr ⟨ha, by simp [live, e]⟩) h0)
    simpa using this
  | cons a0 sq0 =>
    rw [← hsq0]
    refine ite_f (by rw [hsq0]; rfl) ?_
    repeat (tm_at "aw")
    refine AG.mono (Q := fun f σ' => f = .next ∧ σ'.loc (Str.ofString "sequences") = some (.ref D) ∧ σ'.loc (Str.ofString "result") = some (.ref res) ∧ Ext hp₂ σ'.hp ∧
      ((∃ c, σ'.loc (Str.ofString "candidate") = some (.int c) ∧ Pick (as.map cur₁) c) ∨ (σ'.loc (Str.ofString "candidate") = some .none ∧ ∀ b ∈ sq₂, ∀ d, (cur₁ b).head? = some d → Held (as.map cur₁) d))) ?_ ?_
    · refine AF_for ?_
      repeat (tm_at "aw")
      refine ⟨_, _, iter_list hF.hd, hD₂, fun vs e => ?_⟩
      subst e
      refine ⟨fun i σ' => σ'.loc (Str.ofString "sequences") = some (.ref D) ∧ σ'.loc (Str.ofString "result") = some (.ref res) ∧ Ext hp₂ σ'.hp ∧ (0 < i → σ'.loc (Str.ofString "candidate") = some .none) ∧
        ∀ b ∈ sq₂.take i, ∀ d, (cur₁ b).head? = some d → Held (as.map cur₁) d, ⟨by tm_at "loc", by tm_at "loc", Ext.refl _, (by intro h; omega), by simp⟩, fun i σ' h => h.2.2.1 _ _ hD₂, ?_, ?_⟩
      · rintro i v σ' C₁ E₁ hv ⟨i1, i2, i3, i4, i5⟩ hlike
        have hF₁ := hF.like hlike
        obtain ⟨a, ha, rfl⟩ := refs_get hv
        have ham := List.mem_of_getElem? ha
        have haas := (hsub₂ a ham).1
        have hhead : ∃ c rest, cur₁ a = c :: rest := by
          have := (hsub₂ a ham).2
          unfold live at this
          cases e : cur₁ a with
          | nil => rw [e] at this; cases this
          | cons x xs => exact ⟨x, xs, rfl⟩
        obtain ⟨c, rest, hca⟩ := hhead
        have hpa : σ'.hp a = some (.list (.int c :: nums rest)) := by have := i3 _ _ (hat₃ a haas); rw [hca] at this; exact this
        repeat (tm_at "aw")
        refine AG.mono (Q := fun (f : PF) σ'' => (f = .next ∧ σ''.loc (Str.ofString "sequences") = some (.ref D) ∧ σ''.loc (Str.ofString "result") = some (.ref res) ∧ Ext hp₂ σ''.hp ∧ σ''.loc (Str.ofString "candidate") = some .none ∧ Held (as.map cur₁) c) ∨
          (f = .brk ∧ σ''.loc (Str.ofString "sequences") = some (.ref D) ∧ σ''.loc (Str.ofString "result") = some (.ref res) ∧ Ext hp₂ σ''.hp ∧ σ''.loc (Str.ofString "candidate") = some (.int c) ∧ ∀ b ∈ sq₂, c ∉ (cur₁ b).tail)) ?_ ?_
        · refine AF_for ?_
          repeat (tm_at "aw")
          refine ⟨_, _, iter_list hF₁.hd, i3 _ _ hD₂, fun vs e => ?_⟩
          subst e
          refine ⟨fun j σ'' => σ''.loc (Str.ofString "sequences") = some (.ref D) ∧ σ''.loc (Str.ofString "result") = some (.ref res) ∧ Ext hp₂ σ''.hp ∧ σ''.loc (Str.ofString "candidate") = some (.int c) ∧
            ∀ b ∈ sq₂.take j, c ∉ (cur₁ b).tail, ⟨by tm_at "loc", by tm_at "loc", i3, by tm_at "loc", by simp⟩, fun i σ' h => h.2.2.1 _ _ hD₂, ?_, ?_⟩
          · rintro j v σ₃ C₂ E₂ hv₂ ⟨j1, j2, j3, j4, j5⟩ hlike₂
            have hF₂ := hF₁.like hlike₂
            obtain ⟨b, hb, rfl⟩ := refs_get hv₂
            have hbm := List.mem_of_getElem? hb
            have hpb := j3 _ _ (hat₃ b (hsub₂ b hbm).1)
            have hlb : (cur₁ b).length ≤ 100000 := by have := len_le_total (cur := cur₁) (hsub₂ b hbm).1; omega
            repeat (tm_at "aw")
            rename_i d1 n1
            have e1 : pickN (cur₁ b) (some 1) none = (cur₁ b).tail := by simp [pickN]
            rw [e1]
            have hext₃ := j3.pt (o := .list (nums (pickN (cur₁ b) (some 1) none))) n1
            rw [e1] at hext₃
            cases hm : (cur₁ b).tail.contains c with
            | true =>
              refine ite_t rfl ?_
              repeat (tm_at "aw")
              refine .inl ⟨rfl, by tm_at "loc", by tm_at "loc", hext₃, by tm_at "loc", ?_⟩
              exact ⟨cur₁ b, List.mem_map.mpr ⟨b, (hsub₂ b hbm).1, rfl⟩, by simpa using hm⟩
            | false =>
              refine ite_f (by decide) ?_
              repeat (tm_at "aw")
              refine ⟨by tm_at "loc", by tm_at "loc", hext₃, by tm_at "loc", ?_⟩
              intro b' hb' hc'
              rw [take_succ_at hb] at hb'
              rcases List.mem_append.mp hb' with hb' | hb'
              · exact j5 b' hb' hc'
              · simp at hb'; subst hb'
                rw [List.contains_iff_mem.mpr hc'] at hm; cases hm
          · rintro σ₃ E₂ ⟨j1, j2, j3, j4, j5⟩
            repeat (tm_at "aw")
            refine .inr ⟨rfl, j1, j2, j3, j4, ?_⟩
            rw [refs_length, List.take_length] at j5
            exact j5
        · rintro f σ₃ (⟨rfl, k1, k2, k3, k4, k5⟩ | ⟨rfl, k1, k2, k3, k4, k5⟩)
          · repeat (tm_at "aw")
            refine ⟨k1, k2, k3, fun _ => k4, ?_⟩
            intro b hb d hd
            rw [take_succ_at ha] at hb
            rcases List.mem_append.mp hb with hb | hb
            · exact i5 b hb d hd
            · simp at hb; subst hb
              rw [hca] at hd; cases hd; exact k5
          · refine ⟨rfl, k1, k2, k3, .inl ⟨c, k4, ?_⟩⟩
            rw [← hsq₂] at ha k5 i5
            exact pick_live ha (by rw [hca]; rfl) k5 i5
      · rintro σ' E₁ ⟨i1, i2, i3, i4, i5⟩
        rw [refs_length] at i4 i5
        rw [List.take_length] at i5
        repeat (tm_at "aw")
        exact ⟨rfl, i1, i2, i3, .inr ⟨i4 (by rw [hsq0]; simp), i5⟩⟩
    · rintro f σ₃ ⟨rfl, k1, k2, k3, hR⟩
      have hres₃ := k3 _ _ hres₂
      have hD₃ := k3 _ _ hD₂
      have hat₄ := hat₃.ext k3
      have hfx₃ := hfx₂.ext k3
      rcases hR with ⟨c, k4, hpick⟩ | ⟨k4, hst⟩
      · repeat (tm_at "aw")
        have hnd₂ : sq₂.Nodup := by rw [← hsq₂]; exact nd.filter _
        have hne1 : ∀ a ∈ as, a ≠ res := fun a ha e => hresas (e ▸ ha)
        have hne2 : ∀ a ∈ as, a ≠ D := fun a ha e => hDas (e ▸ ha)
        refine AF_for ?_
        repeat (tm_at "aw")
        refine ⟨_, _, iter_list hF.hd, by tm_at "hp", fun vs e => ?_⟩
        subst e
        refine ⟨fun j σ' => σ'.loc (Str.ofString "sequences") = some (.ref D) ∧ σ'.loc (Str.ofString "result") = some (.ref res) ∧ σ'.loc (Str.ofString "candidate") = some (.int c) ∧ σ'.hp D = some (.list (refs sq₂)) ∧
          σ'.hp res = some (.list (nums (out ++ [c]))) ∧ Fx as σ.hp σ'.hp ∧ AtF σ'.hp as (stripU c cur₁ (sq₂.take j)), ?_, fun i σ' h => h.2.2.2.1, ?_, ?_⟩
        · refine ⟨by tm_at "loc", by tm_at "loc", by tm_at "loc", by tm_at "hp", ?_, hfx₃.upd (.inr hres), ?_⟩
          · rw [nums_append]; exact hp_here
          · rw [List.take_zero, stripU_nil]
            exact fun a ha => hp_skip (hne1 a ha) (hat₄ a ha)
        · rintro j v σ' C₁ E₁ hv ⟨j1, j2, j3, j4, j5, j6, j7⟩ hlike
          have hF₁ := hF.like hlike
          obtain ⟨a, ha, rfl⟩ := refs_get hv
          have ham := List.mem_of_getElem? ha
          have haas := (hsub₂ a ham).1
          have hnot : a ∉ sq₂.take j := by
            intro hm
            have hs := split_at ha
            rw [hs] at hnd₂
            exact (List.nodup_append.mp hnd₂).2.2 a hm a (.head _) rfl
          have hcur : stripU c cur₁ (sq₂.take j) a = cur₁ a := by unfold stripU; rw [if_neg hnot]
          have hhead : ∃ x rest, cur₁ a = x :: rest := by
            have := (hsub₂ a ham).2
            unfold live at this
            cases e : cur₁ a with
            | nil => rw [e] at this; cases this
            | cons x xs => exact ⟨x, xs, rfl⟩
          obtain ⟨x, rest, hca⟩ := hhead
          have hpa : σ'.hp a = some (.list (.int x :: nums rest)) := by have := j7 a haas; rw [hcur, hca] at this; exact this
          have hlr : rest.length < 100001 := by have := len_le_total (cur := cur₁) haas; rw [hca] at this; simp at this; omega
          have hU : ∀ b, b ≠ a → stripU c cur₁ (sq₂.take (j + 1)) b = stripU c cur₁ (sq₂.take j) b := fun b hb => by
            unfold stripU
            rw [take_succ_at ha]
            simp [hb]
          have hUa : stripU c cur₁ (sq₂.take (j + 1)) a = stripF c cur₁ a := by
            unfold stripU
            rw [take_succ_at ha, if_pos (by simp)]
          repeat (tm_at "aw")
          by_cases hxc : x = c
          · refine ite_t (by simpa using hxc) ?_
            repeat (tm_at "aw")
            refine ⟨by tm_at "loc", by tm_at "loc", by tm_at "loc", hp_skip (Ne.symm (hne2 a haas)) j4, hp_skip (Ne.symm (hne1 a haas)) j5, j6.upd (.inl haas), fun b hb => ?_⟩
            by_cases hba : b = a
            · subst hba
              rw [hUa, show stripF c cur₁ b = rest by unfold stripF; rw [hca]; simp [hxc]]
              exact hp_here
            · rw [hU b hba]; exact hp_skip hba (j7 b hb)
          · refine ite_f (by simpa using hxc) ?_
            repeat (tm_at "aw")
            refine ⟨by tm_at "loc", by tm_at "loc", by tm_at "loc", j4, j5, j6, fun b hb => ?_⟩
            by_cases hba : b = a
            · subst hba
              rw [hUa, show stripF c cur₁ b = cur₁ b by unfold stripF; rw [hca]; simp [hxc]]
              have := j7 b hb
              rwa [hcur] at this
            · rw [hU b hba]; exact j7 b hb
        · rintro σ' E₁ ⟨j1, j2, j3, j4, j5, j6, j7⟩
          rw [refs_length, List.take_length] at j7
          repeat (tm_at "aw")
          have hlt := total_strip_lt hpick.head
          rw [strip_map, hn] at hlt
          refine ⟨total (as.map (stripF c cur₁)), hlt, sq₂, stripF c cur₁, out ++ [c], D, rfl, by simp; omega, hl2, fun a ha => (hsub₂ a ha).1, ?_, j1, j2, j4, j5, j6, ?_, ?_⟩
          · rw [← hsq₂, filter_filter_live live_strip]
          · intro a ha
            have := j7 a ha
            by_cases hm : a ∈ sq₂
            · unfold stripU at this; rwa [if_pos hm] at this
            · have h0 : cur₁ a = [] := by
                cases e : cur₁ a with
                | nil => rfl
                | cons x xs => exact absurd (by rw [← hsq₂]; exact List.mem_filter.mpr ⟨ha, by simp [live, e]⟩) hm
              unfold stripU at this
              rw [if_neg hm] at this
              rwa [show stripF c cur₁ a = cur₁ a by unfold stripF; rw [h0]; simp]
          · intro o rest b h
            have := hc3 (c :: o) rest b (.step hpick (by rw [strip_map]; exact h))
            simpa using this
      · repeat (tm_at "aw")
        refine AF_raise hF.hd (hF.g rfl) (hF.gt hrt) fun s₁ h' e tok r hm => hraise _ s₁ h' e tok r hm (hP out cur₁ _ ?_ hfx₃ hat₄)
        have := hc3 [] (as.map cur₁) false (.stuck ⟨cur₁ a0, List.mem_map.mpr ⟨a0, (hsub₂ a0 (by rw [hsq0]; exact .head _)).1, rfl⟩, ?_⟩ ?_)
        · simpa using this
        · have := (hsub₂ a0 (by rw [hsq0]; exact .head _)).2
          unfold live at this
          intro e; rw [e] at this; cases this
        · intro r hr d hd
          obtain ⟨b, hb, rfl⟩ := List.mem_map.mp hr
          refine hst b ?_ d hd
          rw [← hsq₂]
          refine List.mem_filter.mpr ⟨hb, ?_⟩
          unfold live
          cases e : cur₁ b with
          | nil => rw [e] at hd; cases hd
          | cons x xs => rfl

set_option maxRecDepth 100000 in
theorem c3_fn {C : Cx} {outer : List Env} {σ : AS} {fa l : Addr} {as : List Addr} {cur : Addr → List Int} {Q : PV → AS → Prop} {QE : AS → Prop} (hd : C.hd = true) (hf : C.G.isFn (fC3 fa)) (hb : 0 < C.bud) (F : FrOK C outer σ.hp)
    (hrt : C.G.gt (Str.ofString "RuntimeError") = some (.type "RuntimeError"))
    (hs : σ.hp l = some (.list (refs as))) (nd : as.Nodup) (hat : AtF σ.hp as cur) (b1 : as.length ≤ 1000) (b2 : total (as.map cur) ≤ 100000)
    (hQE : ∀ out cur' hp', C3 (as.map cur) out (as.map cur') false → Fx as σ.hp hp' → AtF hp' as cur' → QE ⟨σ.loc, hp'⟩)
    (hQ : ∀ d out cur' hp', C3 (as.map cur) out (as.map cur') true → Fx as σ.hp hp' → AtF hp' as cur' → σ.hp d = none → hp' d = some (.list (nums out)) → Q (.ref d) ⟨σ.loc, hp'⟩) :
    ACall C (.ref fa) [.ref l] Q (EFly C outer incon QE) σ := by
  refine A_fnS (f := fC3 fa) hf hb F ?_ rfl rfl rfl rfl fun C' m E' hF hL hE => ?_
  · intro us pm cd doc h
    obtain ⟨u, rfl⟩ := len1 h
    rfl
  have ne : ∀ {a o}, σ.hp a = some o → a ≠ C.env.locals := fun {a o} e q => by rw [q, hL] at e; cases e
  have hat' : AtF (upd σ.hp C.env.locals (.ns m)) as cur := fun a ha => upd_skip (ne (hat a ha)) (hat a ha)
  have hkept : ∀ {hp' : Addr → Option PO}, Fx as (upd σ.hp C.env.locals (.ns m)) hp' → NsKept (upd σ.hp C.env.locals (.ns m)) hp' := fun h b m' e => h b _ e fun hm => by
    rw [hat' b hm] at e; cases e
  have hfx : ∀ {hp' : Addr → Option PO}, Fx as (upd σ.hp C.env.locals (.ns m)) hp' → Fx as σ.hp (ers hp' C.env.locals) := fun h a o e n => by
    rw [ers_ne (ne e)]; exact h a o (upd_skip (ne e) e) n
  have hats : ∀ {hp' : Addr → Option PO} {cur' : Addr → List Int}, AtF hp' as cur' → AtF (ers hp' C.env.locals) as cur' := fun h a ha => by
    rw [ers_ne (ne (hat a ha))]; exact h a ha
  refine c3_body (fa := fa) (l := l) (as := as) (cur := cur) (P := fun σ₁ => NsKept (upd σ.hp C.env.locals (.ns m)) σ₁.hp ∧ QE ⟨σ.loc, ers σ₁.hp C.env.locals⟩) (hF.in hd) hrt rfl (upd_skip (ne hs) hs) nd hat' b1 b2
    (fun σ₁ s₁ h' e tok r hm hp => hE σ₁ s₁ h' e tok r hm hp.1 hp.2)
    (fun out cur' σ' h1 h2 h3 => ⟨hkept h2, hQE out cur' _ h1 (hfx h2) (hats h3)⟩)
    (fun d out cur' σ' h1 h2 h3 h4 h5 => ⟨hkept h2, ?_⟩)
  replace h4 : upd σ.hp C.env.locals (.ns m) d = none := h4
  have hdL : d ≠ C.env.locals := by rintro rfl; rw [upd_here] at h4; cases h4
  have hdn : σ.hp d = none := by unfold upd at h4; rwa [if_neg hdL] at h4
  exact hQ d out cur' _ h1 (hfx h2) (hats h3) hdn (by rw [ers_ne hdL]; exact h5)

abbrev fLaw (a : Addr) : Fn := fnAt PySem.Challenge.pw_kr0004_01 7 a

structure Tops (G : Gl) (a1 a3 a4 a5 a6 : Addr) : Prop where
  len : G.gt (Str.ofString "len") = some (.builtin "len")
  range : G.gt (Str.ofString "range") = some (.type "range")
  set : G.gt (Str.ofString "set") = some (.type "set")
  list : G.gt (Str.ofString "list") = some (.type "list")
  str : G.gt (Str.ofString "str") = some (.type "str")
  sorted : G.gt (Str.ofString "sorted") = some (.builtin "sorted")
  rt : G.gt (Str.ofString "RuntimeError") = some (.type "RuntimeError")
  max : G.gt (Str.ofString "max") = some (.builtin "max")
  g1 : G.gt (Str.ofString "_c3_merge") = some (.ref a1)
  i1 : G.isFn (fnAt PySem.Challenge.pw_kr0004_01 1 a1)
  g3 : G.gt (Str.ofString "_law_rows") = some (.ref a3)
  i3 : G.isFn (fnAt PySem.Challenge.pw_kr0004_01 3 a3)
  g4 : G.gt (Str.ofString "_law_names") = some (.ref a4)
  i4 : G.isFn (fnAt PySem.Challenge.pw_kr0004_01 4 a4)
  g5 : G.gt (Str.ofString "_law_ahead") = some (.ref a5)
  i5 : G.isFn (fnAt PySem.Challenge.pw_kr0004_01 5 a5)
  g6 : G.gt (Str.ofString "_law_key") = some (.ref a6)
  i6 : G.isFn (fnAt PySem.Challenge.pw_kr0004_01 6 a6)

theorem recs_len : (recsOf PySem.Challenge.pw_kr0004_01).length = 6 := by kernel_rfl
theorem rec_1 (a : Addr) : recFn PySem.Challenge.pw_kr0004_01 0 a = fnAt PySem.Challenge.pw_kr0004_01 1 a := by kernel_rfl
theorem rec_3 (a : Addr) : recFn PySem.Challenge.pw_kr0004_01 1 a = fnAt PySem.Challenge.pw_kr0004_01 3 a := by kernel_rfl
theorem rec_4 (a : Addr) : recFn PySem.Challenge.pw_kr0004_01 2 a = fnAt PySem.Challenge.pw_kr0004_01 4 a := by kernel_rfl
theorem rec_5 (a : Addr) : recFn PySem.Challenge.pw_kr0004_01 3 a = fnAt PySem.Challenge.pw_kr0004_01 5 a := by kernel_rfl
theorem rec_6 (a : Addr) : recFn PySem.Challenge.pw_kr0004_01 4 a = fnAt PySem.Challenge.pw_kr0004_01 6 a := by kernel_rfl
theorem recFn_congr {p q : Program} (h : recsOf p = recsOf q) (k : Nat) (a : Addr) : recFn p k a = recFn q k a := by unfold recFn; rw [h]

theorem tops_of {prog p : Program} {w : World} {loose : List Str} {mean : ExcName → Option Value} {mg mb : Str → Option Value} {h : Heap} (T : Top p loose mean mg mb h) (hrec : recsOf p = recsOf PySem.Challenge.pw_kr0004_01)
    (hn : (biNames.all fun x => decide (Str.ofString x ∉ startupNames) && decide (Str.ofString x ∉ loose) && decide (Str.ofString x ∉ (recsOf p).map (·.name)) && decide (Str.ofString x ∉ (litsOf p).map (·.1)) &&
      decide (Str.ofString x ∉ (clssOf p loose).map (·.name)) && decide (Str.ofString x ≠ "__name__")) = true) : ∃ a1 a3 a4 a5 a6, Tops (topGl prog p w mg mb h) a1 a3 a4 a5 a6 := by
  have hl : (recsOf p).length = 6 := by rw [hrec]; exact recs_len
  obtain ⟨a1, g1, i1⟩ := topGl_fn (prog := prog) (w := w) T (k := 0) (by omega)
  obtain ⟨a3, g3, i3⟩ := topGl_fn (prog := prog) (w := w) T (k := 1) (by omega)
  obtain ⟨a4, g4, i4⟩ := topGl_fn (prog := prog) (w := w) T (k := 2) (by omega)
  obtain ⟨a5, g5, i5⟩ := topGl_fn (prog := prog) (w := w) T (k := 3) (by omega)
  obtain ⟨a6, g6, i6⟩ := topGl_fn (prog := prog) (w := w) T (k := 4) (by omega)
  rw [recFn_congr hrec] at g1 i1 g3 i3 g4 i4 g5 i5 g6 i6
  rw [rec_1] at g1 i1
  rw [rec_3] at g3 i3
  rw [rec_4] at g4 i4
  rw [rec_5] at g5 i5
  rw [rec_6] at g6 i6
  exact ⟨a1, a3, a4, a5, a6, topGl_bi T (x := "len") (by decide) hn, topGl_bi T (x := "range") (by decide) hn, topGl_bi T (x := "set") (by decide) hn, topGl_bi T (x := "list") (by decide) hn, topGl_bi T (x := "str") (by decide) hn, topGl_bi T (x := "sorted") (by decide) hn, topGl_bi T (x := "RuntimeError") (by decide) hn, topGl_bi T (x := "max") (by decide) hn, g1, i1, g3, i3, g4, i4, g5, i5, g6, i6⟩

abbrev fRows (a : Addr) : Fn := fnAt PySem.Challenge.pw_kr0004_01 3 a

def rowsTurn : List Stmt := match ((fRows 0).body[1]? : Option Stmt) with | some (Stmt.For _ _ b _ _) => b | _ => []

set_option maxRecDepth 100000 in
set_option maxHeartbeats 8000000 in
theorem rows_body {G : Gl} {C : Cx} {E'} {σ : AS} {fa l : Addr} {wv : List Value} {xs : List Int} {Q : PF → AS → Prop} (hF : In G (fRows fa) C) (hs : σ.loc (Str.ofString "script") = some (.ref l))
    (hl : C.G.base.IsList l wv.toArray) (hI : VRs (nums xs) wv) (hlen : xs.length ≤ 63)
    (hQ : ∀ σ' lr as rs, Ext σ.hp σ'.hp → σ'.hp lr = some (.list (refs as)) → At σ'.hp as rs → rs.flatten = (xs.take 40 ++ [21, 6, 3, 6, 9, 1, 6]).map thingOf → rs.length ≤ 48 → (∀ r ∈ rs, r.length ≤ 47) → Q (.ret (.ref lr)) σ')
    : AF C (execs (fRows fa).body C.env) Q E' σ := by
  refine AF_cons ?_
  repeat (tm_at "aw")
  rename_i d0 h0 lr hlr
  have hlr0 : σ.hp lr = none := none_of_ext ((Ext.refl _).upd (o := .list []) h0) hlr
  have hd0r : d0 ≠ lr := by rintro rfl; rw [show (σ.pt d0 (.list [])).hp d0 = _ from hp_here] at hlr; cases hlr
  have hR0 : RowsAt (upd (upd σ.hp d0 (.list [])) lr (.list [.ref d0])) lr [] d0 [] [] := ⟨upd_here, At.nil.cons (upd_skip hd0r upd_here), by simp, by simpa using Ne.symm hd0r⟩
  refine AF_for (AV_binop (AV_sliceB (xs := xs) (by tm_at "loc") hl hI (by decide) (line_ok (by omega)) fun dS hS => ?_))
  repeat (tm_at "aw")
  rename_i dL hL dI hdI
  have hys : nums (xs.take (Int.toNat 40)) ++ [PV.int 21, PV.int 6, PV.int 3, PV.int 6, PV.int 9, PV.int 1, PV.int 6] = nums (xs.take 40 ++ [21, 6, 3, 6, 9, 1, 6]) := by rw [nums_append]; rfl
  have hyl : (xs.take 40 ++ [21, 6, 3, 6, 9, 1, 6]).length ≤ 47 := by simp; omega
  rw [hys]
  generalize xs.take 40 ++ [21, 6, 3, 6, 9, 1, 6] = ys at hyl hQ
  have X0 : Ext (upd (upd σ.hp d0 (.list [])) lr (.list [.ref d0])) (upd (upd (upd (upd (upd σ.hp d0 (.list [])) lr (.list [.ref d0])) dS (.list (nums (xs.take (Int.toNat 40))))) dL (.list [PV.int 21, PV.int 6, PV.int 3, PV.int 6, PV.int 9, PV.int 1, PV.int 6])) dI (.list (nums ys))) :=
    (((Ext.refl _).upd hS).upd hL).upd hdI
  have X0' : Ext (upd (upd σ.hp d0 (.list [])) lr (.list [.ref d0])) (upd (upd (upd (upd σ.hp d0 (.list [])) lr (.list [.ref d0])) dS (.list (nums (xs.take (Int.toNat 40))))) dL (.list [PV.int 21, PV.int 6, PV.int 3, PV.int 6, PV.int 9, PV.int 1, PV.int 6])) :=
    ((Ext.refl _).upd hS).upd hL
  have hIn : ∀ a, (upd (upd σ.hp d0 (.list [])) lr (.list [.ref d0])) a ≠ none → a ≠ dI := fun a ha e => by
    cases e' : (upd (upd σ.hp d0 (.list [])) lr (.list [.ref d0])) a with
    | none => exact ha e'
    | some o => have := X0' _ _ e'; rw [e] at this; rw [show (upd (upd (upd (upd σ.hp d0 (.list [])) lr (.list [.ref d0])) dS (.list (nums (xs.take (Int.toNat 40))))) dL (.list [PV.int 21, PV.int 6, PV.int 3, PV.int 6, PV.int 9, PV.int 1, PV.int 6])) dI = none from hdI] at this; cases this
  refine ⟨_, _, iter_list hF.hd, hp_here, fun vs e => ?_⟩
  subst e
  refine ⟨fun i σ' => σ'.loc (Str.ofString "rows") = some (.ref lr) ∧ Ext σ.hp σ'.hp ∧ σ'.hp dI = some (.list (nums ys)) ∧ ∃ as a rs r, RowsAt σ'.hp lr as a rs r ∧ (rs ++ [r]).flatten = (ys.take i).map thingOf ∧ rs.length ≤ i ∧ (∀ q ∈ rs ++ [r], q.length ≤ i) ∧
    (∀ b ∈ as ++ [a], σ.hp b = none) ∧ dI ∉ lr :: (as ++ [a]), ?_, fun i σ' h => h.2.2.1, ?_, ?_⟩
  · refine ⟨by tm_at "loc", ((((((Ext.refl _).upd h0).upd hlr).upd hS).upd hL).upd hdI), hp_here, [], d0, [], [], hR0.ext X0, by simp, by simp, by simp, ?_, ?_⟩
    · intro b hb; simp at hb; subst hb; exact h0
    · simp only [List.nil_append, List.mem_cons, List.not_mem_nil, or_false, not_or]
      refine ⟨(hIn lr ?_).symm, (hIn d0 ?_).symm⟩
      · rw [upd_here]; intro h; cases h
      · rw [upd_skip hd0r upd_here]; intro h; cases h
  · rintro i v σ₁ C₁ E₁ hv ⟨i1, i2, i3, as, a, rs, r, i4, i5, i6, i7, i8, i9⟩ hlike
    have hF₁ := hF.like hlike
    rw [nums_get?] at hv
    obtain ⟨x, hx, rfl⟩ := Option.map_eq_some_iff.mp hv
    have hil : i < ys.length := (List.getElem?_eq_some_iff.mp hx).1
    have kEnd : ∀ (σ' : AS) as a rs r, σ'.loc (Str.ofString "rows") = some (.ref lr) → σ'.loc (Str.ofString "thing") = some (.int (thingOf x)) → Ext σ.hp σ'.hp → σ'.hp dI = some (.list (nums ys)) → RowsAt σ'.hp lr as a rs r →
        (rs ++ [r]).flatten = (ys.take i).map thingOf → rs.length ≤ i + 1 → (∀ q ∈ rs ++ [r], q.length ≤ i) → (∀ b ∈ as ++ [a], σ.hp b = none) → dI ∉ lr :: (as ++ [a]) →
        AF C₁ (execs (rowsTurn.drop 3) C₁.env) (fun f σ'' => match f with
          | .next => (σ''.loc (Str.ofString "rows") = some (.ref lr) ∧ Ext σ.hp σ''.hp ∧ σ''.hp dI = some (.list (nums ys)) ∧ ∃ as a rs r, RowsAt σ''.hp lr as a rs r ∧ (rs ++ [r]).flatten = (ys.take (i + 1)).map thingOf ∧ rs.length ≤ i + 1 ∧ (∀ q ∈ rs ++ [r], q.length ≤ i + 1) ∧ (∀ b ∈ as ++ [a], σ.hp b = none) ∧ dI ∉ lr :: (as ++ [a]))
          | .cont => (σ''.loc (Str.ofString "rows") = some (.ref lr) ∧ Ext σ.hp σ''.hp ∧ σ''.hp dI = some (.list (nums ys)) ∧ ∃ as a rs r, RowsAt σ''.hp lr as a rs r ∧ (rs ++ [r]).flatten = (ys.take (i + 1)).map thingOf ∧ rs.length ≤ i + 1 ∧ (∀ q ∈ rs ++ [r], q.length ≤ i + 1) ∧ (∀ b ∈ as ++ [a], σ.hp b = none) ∧ dI ∉ lr :: (as ++ [a]))
          | .brk => AF C (execs ((fRows fa).body.drop 2) C.env) Q E' σ''
          | .ret u => Q (.ret u) σ'') E₁ σ' := by
      intro σ' as a rs r j1 j2 j3 j4 j5 j6 j7 j8 j9 j10
      have hra := j5.row
      have hal : a ≠ dI := fun e => j10 (by rw [← e]; simp)
      have hrz : (nums r).length ≤ sizeLine := line_ok (by rw [nums_length]; have := j8 r (by simp); omega)
      refine AF_cons ?_
      refine AF_expr ?_
      refine AV_method ?_ (by rfl)
      repeat (tm_at "aw")
      refine S_last j5.l ?_
      refine ⟨"list.append", M_append hra, ?_⟩
      refine AVL_cons ?_
      refine AV_name j2 ?_
      refine AVL_nil ?_
      refine A_append hra hrz ?_
      refine ⟨rfl, ?_⟩
      refine AF_nil ?_
      rw [show nums r ++ [PV.int (thingOf x)] = nums (r ++ [thingOf x]) by rw [nums_append]; rfl]
      refine ⟨j1, j3.updF (j9 a (by simp)), hp_skip (Ne.symm hal) j4, as, a, rs, r ++ [thingOf x], j5.put (thingOf x), ?_, j7, ?_, j9, j10⟩
      · rw [take_succ_at hx, List.map_append, ← j6]; simp
      · intro q hq
        rcases List.mem_append.mp hq with hq | hq
        · have := j8 q (List.mem_append_left _ hq); omega
        · simp at hq; subst hq
          have := j8 r (by simp)
          rw [List.length_append]; simp; omega
    have hlz : (refs as ++ [PV.ref a]).length ≤ sizeLine := line_ok (by simp; have := i4.at_.1; simp at this; omega)
    refine AF_cons ?_
    refine AF_assign ?_
    repeat (tm_at "aw")
    generalize hσ : ((σ₁.st (Str.ofString "x") (PV.int x)).st (Str.ofString "thing") (PV.int ((x.fmod 192).fmod 12))).st (Str.ofString "way") (PV.int ((x.fmod 192).fdiv 12)) = σ₂
    have g1 : σ₂.loc (Str.ofString "rows") = some (.ref lr) := by rw [← hσ]; tm_at "loc"
    have g2 : σ₂.loc (Str.ofString "thing") = some (.int (thingOf x)) := by rw [← hσ]; exact loc_skip (by decide) loc_here
    have g3 : σ₂.loc (Str.ofString "way") = some (.int ((x.fmod 192).fdiv 12)) := by rw [← hσ]; exact loc_here
    have g4 : σ₂.hp = σ₁.hp := by rw [← hσ]; rfl
    rw [← g4] at i2 i3 i4
    have kF : ∀ (σ' : AS), σ'.loc = σ₂.loc → Ext σ₂.hp σ'.hp → AF C₁ (execs (rowsTurn.drop 3) C₁.env) (fun f σ'' => match f with
          | .next => (σ''.loc (Str.ofString "rows") = some (.ref lr) ∧ Ext σ.hp σ''.hp ∧ σ''.hp dI = some (.list (nums ys)) ∧ ∃ as a rs r, RowsAt σ''.hp lr as a rs r ∧ (rs ++ [r]).flatten = (ys.take (i + 1)).map thingOf ∧ rs.length ≤ i + 1 ∧ (∀ q ∈ rs ++ [r], q.length ≤ i + 1) ∧ (∀ b ∈ as ++ [a], σ.hp b = none) ∧ dI ∉ lr :: (as ++ [a]))
          | .cont => (σ''.loc (Str.ofString "rows") = some (.ref lr) ∧ Ext σ.hp σ''.hp ∧ σ''.hp dI = some (.list (nums ys)) ∧ ∃ as a rs r, RowsAt σ''.hp lr as a rs r ∧ (rs ++ [r]).flatten = (ys.take (i + 1)).map thingOf ∧ rs.length ≤ i + 1 ∧ (∀ q ∈ rs ++ [r], q.length ≤ i + 1) ∧ (∀ b ∈ as ++ [a], σ.hp b = none) ∧ dI ∉ lr :: (as ++ [a]))
          | .brk => AF C (execs ((fRows fa).body.drop 2) C.env) Q E' σ''
          | .ret u => Q (.ret u) σ'') E₁ σ' := fun σ' hl' hx' =>
      kEnd σ' as a rs r (by rw [hl']; exact g1) (by rw [hl']; exact g2) (i2.trans hx') (hx' _ _ i3) (i4.ext hx') i5 (by omega) i7 i8 i9
    have kT : ∀ (σ' : AS), σ'.loc = σ₂.loc → Ext σ₂.hp σ'.hp → AF C₁ (execs (match (rowsTurn[2]? : Option Stmt) with | some (Stmt.If _ b _ _) => b | _ => []) C₁.env) (fun f σ₁ => match f with
          | .next => AF C₁ (execs (rowsTurn.drop 3) C₁.env) (fun f σ'' => match f with
            | .next => (σ''.loc (Str.ofString "rows") = some (.ref lr) ∧ Ext σ.hp σ''.hp ∧ σ''.hp dI = some (.list (nums ys)) ∧ ∃ as a rs r, RowsAt σ''.hp lr as a rs r ∧ (rs ++ [r]).flatten = (ys.take (i + 1)).map thingOf ∧ rs.length ≤ i + 1 ∧ (∀ q ∈ rs ++ [r], q.length ≤ i + 1) ∧ (∀ b ∈ as ++ [a], σ.hp b = none) ∧ dI ∉ lr :: (as ++ [a]))
            | .cont => (σ''.loc (Str.ofString "rows") = some (.ref lr) ∧ Ext σ.hp σ''.hp ∧ σ''.hp dI = some (.list (nums ys)) ∧ ∃ as a rs r, RowsAt σ''.hp lr as a rs r ∧ (rs ++ [r]).flatten = (ys.take (i + 1)).map thingOf ∧ rs.length ≤ i + 1 ∧ (∀ q ∈ rs ++ [r], q.length ≤ i + 1) ∧ (∀ b ∈ as ++ [a], σ.hp b = none) ∧ dI ∉ lr :: (as ++ [a]))
            | .brk => AF C (execs ((fRows fa).body.drop 2) C.env) Q E' σ''
            | .ret u => Q (.ret u) σ'') E₁ σ₁
          | f => (fun f σ'' => match f with
            | .next => (σ''.loc (Str.ofString "rows") = some (.ref lr) ∧ Ext σ.hp σ''.hp ∧ σ''.hp dI = some (.list (nums ys)) ∧ ∃ as a rs r, RowsAt σ''.hp lr as a rs r ∧ (rs ++ [r]).flatten = (ys.take (i + 1)).map thingOf ∧ rs.length ≤ i + 1 ∧ (∀ q ∈ rs ++ [r], q.length ≤ i + 1) ∧ (∀ b ∈ as ++ [a], σ.hp b = none) ∧ dI ∉ lr :: (as ++ [a]))
            | .cont => (σ''.loc (Str.ofString "rows") = some (.ref lr) ∧ Ext σ.hp σ''.hp ∧ σ''.hp dI = some (.list (nums ys)) ∧ ∃ as a rs r, RowsAt σ''.hp lr as a rs r ∧ (rs ++ [r]).flatten = (ys.take (i + 1)).map thingOf ∧ rs.length ≤ i + 1 ∧ (∀ q ∈ rs ++ [r], q.length ≤ i + 1) ∧ (∀ b ∈ as ++ [a], σ.hp b = none) ∧ dI ∉ lr :: (as ++ [a]))
            | .brk => AF C (execs ((fRows fa).body.drop 2) C.env) Q E' σ''
            | .ret u => Q (.ret u) σ'') f σ₁) E₁ σ' := by
      intro σ' hl' hx'
      have q1 : σ'.loc (Str.ofString "rows") = some (.ref lr) := by rw [hl']; exact g1
      have q4 := i4.ext hx'
      refine AF_cons ?_
      refine AF_expr ?_
      refine AV_method ?_ (by rfl)
      refine AV_name q1 ?_
      refine ⟨"list.append", M_append q4.l, ?_⟩
      refine AVL_cons ?_
      refine AV_list ?_
      refine AVL_nil ?_
      refine ⟨line_ok (by simp), fun dN hN => ?_⟩
      refine AVL_nil ?_
      refine A_append (hp_new hN q4.l) hlz ?_
      refine ⟨rfl, ?_⟩
      refine AF_nil ?_
      have hX := (i2.trans hx').upd (o := .list []) hN
      have hdIN : dI ≠ dN := ne_of_some (hx' _ _ i3) hN
      have hdIl : dI ≠ lr := fun e => i9 (by rw [e]; exact .head _)
      rw [show refs as ++ [PV.ref a] ++ [PV.ref dN] = refs (as ++ [a]) ++ [PV.ref dN] by rw [refs_snoc]]
      refine kEnd _ (as ++ [a]) dN (rs ++ [r]) [] (by tm_at "loc") (by show σ'.loc _ = _; rw [hl']; exact g2) (hX.updF hlr0) (hp_skip hdIl (hp_new hN (hx' _ _ i3))) (q4.add hN) (by simpa using i5) (by rw [List.length_append]; simp; omega) ?_ ?_ ?_
      · intro q hq
        rcases List.mem_append.mp hq with hq | hq
        · exact i7 q hq
        · simp at hq; subst hq; simp
      · intro b hb
        rcases List.mem_append.mp hb with hb | hb
        · exact i8 b hb
        · simp at hb; subst hb; exact none_of_ext (i2.trans hx') hN
      · intro hm
        rcases List.mem_cons.mp hm with h | h
        · exact hdIl h
        · rcases List.mem_append.mp h with h | h
          · exact i9 (.tail _ h)
          · simp at h; exact hdIN h
    cases hw1 : (x.fmod 192).fdiv 12 == 1 with
    | true =>
      refine ite_t rfl ?_
      refine ite_t rfl ?_
      exact kT σ₂ rfl (Ext.refl _)
    | false =>
      refine ite_f rfl ?_
      refine AB_or_cons ?_
      refine AB_and ?_
      refine AB_and_cons ?_
      refine AB_compare ?_
      refine AV_name g3 ?_
      refine AV_int ?_
      refine B_nei ?_
      refine AT_bool ?_
      cases hw2 : (x.fmod 192).fdiv 12 != 2 with
      | false =>
        refine ite_f rfl ?_
        refine ite_f rfl ?_
        refine AB_or_nil ?_
        refine ite_f rfl ?_
        exact AF_nil (kF σ₂ rfl (Ext.refl _))
      | true =>
        refine ite_t rfl ?_
        refine AB_and_cons ?_
        refine AB_compare ?_
        refine AV_subscript ?_
        refine AV_name g1 ?_
        refine AV_unary ?_
        refine AV_int ?_
        refine B_neg ?_
        refine S_last i4.l ?_
        refine AV_list ?_
        refine AVL_nil ?_
        refine ⟨line_ok (by simp), fun d1 h1 => ?_⟩
        refine B_neL (xs := r) (ys := []) (hp_new h1 i4.row) hp_here ?_
        refine AT_bool ?_
        have X1 : Ext σ₂.hp (σ₂.pt d1 (.list [])).hp := (Ext.refl _).upd h1
        cases hr : r with
        | nil =>
          refine ite_f (by simp) ?_
          refine ite_f rfl ?_
          refine AB_or_nil ?_
          refine ite_f rfl ?_
          exact AF_nil (kF _ rfl X1)
        | cons y r' =>
          refine ite_t (by simp) ?_
          refine AB_and_cons ?_
          refine AB_compare ?_
          refine AV_name (v := .int (thingOf x)) g2 ?_
          refine AV_subscript ?_
          refine AV_subscript ?_
          refine AV_name (v := .ref lr) g1 ?_
          refine AV_unary ?_
          refine AV_int ?_
          refine B_neg ?_
          refine S_last (X1 _ _ i4.l) ?_
          refine AV_unary ?_
          refine AV_int ?_
          refine B_neg ?_
          obtain ⟨r0, z, hz⟩ : ∃ r0 z, r = r0 ++ [z] := ⟨r.dropLast, r.getLast (by rw [hr]; simp), (List.dropLast_concat_getLast _).symm⟩
          have hra : (σ₂.pt d1 (.list [])).hp a = some (.list (nums r0 ++ [.int z])) := by
            have := X1 _ _ i4.row
            rw [hz, nums_append] at this
            exact this
          refine S_last hra ?_
          refine B_lei ?_
          refine AT_bool ?_
          cases hd : decide (thingOf x ≤ z) with
          | false =>
            refine ite_f rfl ?_
            refine ite_f rfl ?_
            refine AB_or_nil ?_
            refine ite_f rfl ?_
            exact AF_nil (kF _ rfl X1)
          | true =>
            refine ite_t rfl ?_
            refine AB_and_nil ?_
            refine ite_t rfl ?_
            refine ite_t rfl ?_
            exact kT _ rfl X1
  · rintro σ₁ E₁ ⟨i1, i2, i3, as, a, rs, r, i4, i5, i6, i7, i8, i9⟩
    rw [nums_length, List.take_length] at i5
    rw [nums_length] at i6 i7
    repeat (tm_at "aw")
    refine hQ _ lr (as ++ [a]) (rs ++ [r]) i2 ?_ i4.at_ i5 (by rw [List.length_append]; simp; omega) (fun q hq => by have := i7 q hq; omega)
    have := i4.l
    rwa [refs_snoc] at this

set_option maxRecDepth 100000 in
theorem rows_fn {C : Cx} {E} {σ : AS} {fa l : Addr} {wv : List Value} {xs : List Int} {Q : PV → AS → Prop} (hd : C.hd = true) (hf : C.G.isFn (fRows fa)) (hb : 0 < C.bud)
    (hl : C.G.base.IsList l wv.toArray) (hI : VRs (nums xs) wv) (hlen : xs.length ≤ 63)
    (hQ : ∀ hp' lr as rs, Ext σ.hp hp' → hp' lr = some (.list (refs as)) → At hp' as rs → rs.flatten = (xs.take 40 ++ [21, 6, 3, 6, 9, 1, 6]).map thingOf → rs.length ≤ 48 → (∀ r ∈ rs, r.length ≤ 47) → Q (.ref lr) ⟨σ.loc, hp'⟩) : ACall C (.ref fa) [.ref l] Q E σ := by
  refine A_fn (f := fRows fa) hf hb ?_ rfl rfl rfl rfl fun C' E' hF => ?_
  · intro us pm cd doc h
    obtain ⟨u, rfl⟩ := len1 h
    rfl
  exact rows_body (hF.in hd) rfl (by rw [hF.G]; exact hl) hI hlen fun σ' lr as rs h1 h2 h3 h4 h5 h6 => hQ σ'.hp lr as rs h1 h2 h3 h4 h5 h6

abbrev fNames (a : Addr) : Fn := fnAt PySem.Challenge.pw_kr0004_01 4 a

set_option maxRecDepth 100000 in
set_option maxHeartbeats 4000000 in
theorem names_body {G : Gl} {C : Cx} {E'} {σ : AS} {fa l : Addr} {as : List Addr} {rs : Rows} {Q : PF → AS → Prop} (hF : In G (fNames fa) C)
    (hl : σ.loc (Str.ofString "rows") = some (.ref l)) (hs : σ.hp l = some (.list (refs as))) (hat : At σ.hp as rs) (b4 : ∀ r ∈ rs, ∀ x ∈ r, 0 ≤ x ∧ x < 12)
    (hQ : ∀ d σ', Ext σ.hp σ'.hp → σ.hp d = none → σ'.hp d = some (.list (nums (namesOf rs))) → Q (.ret (.ref d)) σ')
    : AF C (execs (fNames fa).body C.env) Q E' σ := by
  have hbound : ∀ l : List Int, (∀ x ∈ l, 0 ≤ x ∧ x < 12) → (namesFrom [] l).length ≤ 12 := fun l hl => by
    have hsub : ∀ x ∈ namesFrom [] l, x ∈ (List.range 12).map fun (k : Nat) => (k : Int) := fun x hx => by
      have := hl x (by have := (mem_namesFrom l).mp hx; simpa using this)
      exact List.mem_map.mpr ⟨x.toNat, List.mem_range.mpr (by omega), by omega⟩
    have := nodup_le _ _ (namesFrom_nodup l .nil) hsub
    simpa using this
  refine AF_cons ?_
  repeat (tm_at "aw")
  rename_i d0 h0
  refine AF_for ?_
  repeat (tm_at "aw")
  refine ⟨_, _, iter_list hF.hd, hp_new h0 hs, fun vs e => ?_⟩
  subst e
  refine ⟨fun i σ' => σ'.loc (Str.ofString "names") = some (.ref d0) ∧ Ext σ.hp σ'.hp ∧ σ'.hp d0 = some (.list (nums (namesFrom [] (rs.take i).flatten))), ⟨by tm_at "loc", (Ext.refl _).pt h0, by rw [List.take_zero]; exact hp_here⟩, fun i σ' h => h.2.1 _ _ hs, ?_, ?_⟩
  · rintro i v σ₁ C₁ E₁ hv ⟨i1, i2, i3⟩ hlike
    have hF₁ := hF.like hlike
    obtain ⟨a, ha, rfl⟩ := refs_get hv
    obtain ⟨r, hr, hra⟩ := hat.get ha
    have hrm := List.mem_of_getElem? hr
    have hpa := i2 _ _ hra
    have had : a ≠ d0 := ne_of_some hra h0
    repeat (tm_at "aw")
    refine AF_for ?_
    repeat (tm_at "aw")
    refine ⟨_, _, iter_list hF₁.hd, hpa, fun vs e => ?_⟩
    subst e
    refine ⟨fun j σ' => σ'.loc (Str.ofString "names") = some (.ref d0) ∧ Ext σ.hp σ'.hp ∧ σ'.hp d0 = some (.list (nums (namesFrom [] ((rs.take i).flatten ++ r.take j)))), ⟨by tm_at "loc", i2, by rw [List.take_zero, List.append_nil]; exact i3⟩, fun i σ' h => h.2.1 _ _ hra, ?_, ?_⟩
    · rintro j v σ₂ C₂ E₂ hv₂ ⟨j1, j2, j3⟩ hlike₂
      have hF₂ := hF₁.like hlike₂
      rw [nums_get?] at hv₂
      obtain ⟨x, hx, rfl⟩ := Option.map_eq_some_iff.mp hv₂
      have hsnoc : namesFrom [] ((rs.take i).flatten ++ r.take (j + 1)) = addName (namesFrom [] ((rs.take i).flatten ++ r.take j)) x := by rw [take_succ_at hx, ← List.append_assoc, namesFrom_snoc]
      have hb := hbound ((rs.take i).flatten ++ r.take j) (fun y hy => by
        rcases List.mem_append.mp hy with hy | hy
        · obtain ⟨q, hq, hyq⟩ := List.mem_flatten.mp hy
          exact b4 q (List.mem_of_mem_take hq) y hyq
        · exact b4 r hrm y (List.mem_of_mem_take hy))
      generalize namesFrom [] ((rs.take i).flatten ++ r.take j) = ns at j3 hsnoc hb
      repeat (tm_at "aw")
      cases hc : ns.contains x with
      | true =>
        refine ite_f rfl ?_
        repeat (tm_at "aw")
        refine ⟨by tm_at "loc", j2, ?_⟩
        rw [hsnoc]; unfold addName; rw [if_pos hc]; exact j3
      | false =>
        refine ite_t rfl ?_
        repeat (tm_at "aw")
        refine ⟨by tm_at "loc", j2.updF h0, ?_⟩
        rw [hsnoc]; unfold addName; rw [if_neg (by rw [hc]; decide), nums_append]; exact hp_here
    · rintro σ₂ E₂ ⟨j1, j2, j3⟩
      rw [nums_length, List.take_length] at j3
      repeat (tm_at "aw")
      refine ⟨j1, j2, ?_⟩
      rw [take_succ_at hr, List.flatten_append]
      simpa using j3
  · rintro σ₁ E₁ ⟨i1, i2, i3⟩
    rw [refs_length, hat.1, List.take_length] at i3
    repeat (tm_at "aw")
    exact hQ d0 _ i2 h0 i3

set_option maxRecDepth 100000 in
theorem names_fn {C : Cx} {E} {σ : AS} {fa l : Addr} {as : List Addr} {rs : Rows} {Q : PV → AS → Prop} (hd : C.hd = true) (hf : C.G.isFn (fNames fa)) (hb : 0 < C.bud)
    (hs : σ.hp l = some (.list (refs as))) (hat : At σ.hp as rs) (b4 : ∀ r ∈ rs, ∀ x ∈ r, 0 ≤ x ∧ x < 12)
    (hQ : ∀ d hp', Ext σ.hp hp' → σ.hp d = none → hp' d = some (.list (nums (namesOf rs))) → Q (.ref d) ⟨σ.loc, hp'⟩) : ACall C (.ref fa) [.ref l] Q E σ := by
  refine A_fn (f := fNames fa) hf hb ?_ rfl rfl rfl rfl fun C' E' hF => ?_
  · intro us pm cd doc h
    obtain ⟨u, rfl⟩ := len1 h
    rfl
  exact names_body (hF.in hd) rfl hs hat b4 fun d σ' h1 h2 h3 => hQ d σ'.hp h1 h2 h3

abbrev fAhead (a : Addr) : Fn := fnAt PySem.Challenge.pw_kr0004_01 5 a
def rkF (ns : List Int) (cur : Addr → List Int) : Addr → List Int := fun a => (cur a).map fun x => ((ns.idxOf x : Nat) : Int)

set_option maxRecDepth 100000 in
set_option maxHeartbeats 4000000 in
theorem ahead_body {G : Gl} {C : Cx} {E'} {σ : AS} {fa l ln : Addr} {as : List Addr} {cur : Addr → List Int} {ns : List Int} {size : Nat} {Q : PF → AS → Prop} (hF : In G (fAhead fa) C)
    (hrange : G.gt (Str.ofString "range") = some (.type "range")) (hset : G.gt (Str.ofString "set") = some (.type "set")) (hlenf : G.gt (Str.ofString "len") = some (.builtin "len"))
    (hl : σ.loc (Str.ofString "rows") = some (.ref l)) (hz : σ.loc (Str.ofString "names") = some (.ref ln)) (hs : σ.hp l = some (.list (refs as))) (hns : σ.hp ln = some (.list (nums ns))) (hat : AtF σ.hp as cur)
    (b1 : as.length ≤ 1000) (b2 : ∀ a ∈ as, (cur a).length ≤ 1000) (hsize : ns.length = size) (b3 : size ≤ 12) (b4 : ∀ a ∈ as, ∀ x ∈ cur a, x ∈ ns) (b5 : ∀ x ∈ ns, 0 ≤ x ∧ x < 64)
    (hQ : ∀ d ds σ', Ext σ.hp σ'.hp → σ.hp d = none → σ'.hp d = some (.list (refs ds)) → ds.length = size → SetsAt σ'.hp ds (War (setOf (allPrs (as.map (rkF ns cur)))) size) → Q (.ret (.ref d)) σ')
    : AF C (execs (fAhead fa).body C.env) Q E' σ := by
  have nz : (nums ns).length ≤ sizeLine := line_ok (by rw [nums_length]; omega)
  refine AF_cons ?_
  refine AF_assign_listComp hF.comp (hF.w rfl) ?_
  repeat (tm_at "aw")
  refine comp_new (iter_list hF.hd) (fun hp e => e _ _ hns) nz (fun _ => .set fun _ => false) ?_ ?_
  · intro v hv hp C' E'' hext hC
    have hgl : C'.gl (Str.ofString "set") = true := by rw [hC.gl]; rfl
    have hgt : C'.G.gt (Str.ofString "set") = some (.type "set") := by rw [hC.G]; exact hF.gt hset
    refine AV_call (AV_glob hgl hgt ⟨_, rfl, keeper_type, AVL_nil ?_⟩)
    refine A_set0 fun d hd => ⟨d, rfl, hd, (Ext.refl _).pt hd, hp_here⟩
  rw [nums_length]
  intro hp D ds hext hD hlen hnd hnone hall
  have hx0 : Ext σ.hp (upd hp D (.list (refs ds))) := Ext.upd hext hD
  have hx1 : Ext hp (upd hp D (.list (refs ds))) := (Ext.refl _).upd hD
  have hlen' : ds.length = size := by rw [hlen, hsize]
  have hvs : ∀ i, i < ds.length → ∃ v, (nums ns)[i]? = some v := fun i hi => ⟨_, List.getElem?_eq_getElem (by rw [nums_length]; omega)⟩
  have hsets : SetsAt (upd hp D (.list (refs ds))) ds (setOf []) := fun i d hd => by
    have hi := (List.getElem?_eq_some_iff.mp hd).1
    obtain ⟨v, hv⟩ := hvs i hi
    rw [hx1 _ _ (hall i d v hd hv)]
    congr 2
  have hnone' : ∀ d ∈ ds, σ.hp d = none := hnone
  have hDn : σ.hp D = none := none_of_ext hext hD
  have hDds : D ∉ ds := fun hm => by
    obtain ⟨i, hi⟩ := List.mem_iff_getElem?.mp hm
    have h2 := (List.getElem?_eq_some_iff.mp hi).1
    obtain ⟨v, hv⟩ := hvs i h2
    rw [hall i D v hi hv] at hD; cases hD
  have hD₂ : (upd hp D (.list (refs ds))) D = some (.list (refs ds)) := upd_here
  generalize upd hp D (.list (refs ds)) = hp₂ at hx0 hx1 hsets hD₂ ⊢
  repeat (tm_at "aw")
  have hs₂ := hx0 _ _ hs
  refine AG.mono (Q := fun f σ' => f = .next ∧ σ'.loc (Str.ofString "names") = some (.ref ln) ∧ σ'.loc (Str.ofString "ahead") = some (.ref D) ∧ Ext σ.hp σ'.hp ∧ σ'.hp D = some (.list (refs ds)) ∧
    SetsAt σ'.hp ds (setOf (allPrs (as.map (rkF ns cur))))) ?_ ?_
  · refine AF_for ?_
    repeat (tm_at "aw")
    refine ⟨_, _, iter_list hF.hd, hs₂, fun vs e => ?_⟩
    subst e
    refine ⟨fun n σ' => σ'.loc (Str.ofString "rows") = some (.ref l) ∧ σ'.loc (Str.ofString "names") = some (.ref ln) ∧ σ'.loc (Str.ofString "ahead") = some (.ref D) ∧ Ext σ.hp σ'.hp ∧ σ'.hp D = some (.list (refs ds)) ∧
      SetsAt σ'.hp ds (setOf (allPrs ((as.take n).map (rkF ns cur)))), ⟨by tm_at "loc", by tm_at "loc", by tm_at "loc", hx0, hD₂, hsets⟩, fun i σ' h => h.2.2.2.1 _ _ hs, ?_, ?_⟩
    · rintro n v σ' C₁ E₁ hv ⟨i1, i2, i3, i4, i5, i6⟩ hlike
      have hF₁ := hF.like hlike
      obtain ⟨a, ha, rfl⟩ := refs_get hv
      have ham := List.mem_of_getElem? ha
      have hpa := i4 _ _ (hat a ham)
      have hla := b2 a ham
      repeat (tm_at "aw")
      refine AF_for ?_
      repeat (tm_at "aw")
      rename_i dk hk
      rw [nums_length]
      refine ⟨_, _, iter_range hF₁.hd (lo := 1) (hi := ((cur a).length : Int)) (by omega) (by omega) (by omega) (by omega), hp_here, fun vs e => ?_⟩
      subst e
      refine ⟨fun k σ'' => σ''.loc (Str.ofString "rows") = some (.ref l) ∧ σ''.loc (Str.ofString "names") = some (.ref ln) ∧ σ''.loc (Str.ofString "ahead") = some (.ref D) ∧ σ''.loc (Str.ofString "row") = some (.ref a) ∧
        Ext σ.hp σ''.hp ∧ σ''.hp D = some (.list (refs ds)) ∧ σ''.hp dk = some (.range 1 (cur a).length) ∧
        SetsAt σ''.hp ds (setOf (allPrs ((as.take n).map (rkF ns cur)) ++ (prs (rkF ns cur a)).take k)), ?_, fun i σ' h => h.2.2.2.2.2.2.1, ?_, ?_⟩
      · refine ⟨by tm_at "loc", by tm_at "loc", by tm_at "loc", by tm_at "loc", i4.pt hk, hp_new hk i5, hp_here, ?_⟩
        rw [List.take_zero, List.append_nil]
        exact i6.ext ((Ext.refl _).pt hk)
      · rintro k v σ₃ C₂ E₂ hv₂ ⟨j1, j2, j3, j4, j5, j6, j7, j8⟩ hlike₂
        have hF₂ := hF₁.like hlike₂
        obtain ⟨hkl, rfl⟩ := intsFrom_get hv₂
        have hpa₃ := j5 _ _ (hat a ham)
        repeat (tm_at "aw")
        have hk1 : k + 1 < (cur a).length := by omega
        obtain ⟨y, hy⟩ : ∃ y, (cur a)[k + 1]? = some y := ⟨_, List.getElem?_eq_getElem hk1⟩
        obtain ⟨x, hx⟩ : ∃ x, (cur a)[k]? = some x := ⟨_, List.getElem?_eq_getElem (by omega)⟩
        have hyb := b4 a ham y (List.mem_of_getElem? hy)
        have hxb := b4 a ham x (List.mem_of_getElem? hx)
        have hyl := List.idxOf_lt_length_iff.mpr hyb
        have hxl := List.idxOf_lt_length_iff.mpr hxb
        have hns₃ := j5 _ _ hns
        obtain ⟨d, hd⟩ : ∃ d, ds[ns.idxOf y]? = some d := ⟨_, List.getElem?_eq_getElem (by omega)⟩
        have hdset := j8 _ d hd
        have hy' : (rkF ns cur a)[k + 1]? = some ((ns.idxOf y : Nat) : Int) := by unfold rkF; rw [List.getElem?_map, hy]; rfl
        have hx' : (rkF ns cur a)[k]? = some ((ns.idxOf x : Nat) : Int) := by unfold rkF; rw [List.getElem?_map, hx]; rfl
        refine ⟨"list.index", M_index hns₃, ?_⟩
        repeat (tm_at "aw")
        refine S_get (v := .int y) (by tm_at "hp") (by omega) (by omega) (by rw [nums_get?, show (1 + (k : Int)).toNat = k + 1 by omega, hy]; rfl) ?_
        refine AVL_nil ?_
        refine A_index hns₃ b5 (by omega) hyb ?_
        refine S_get (v := .ref d) (by tm_at "hp") (by omega) (by omega) (by rw [Int.toNat_natCast]; unfold refs; rw [List.getElem?_map, hd]; rfl) ?_
        refine ⟨"set.add", M_add (S := setOf (allPrs ((as.take n).map (rkF ns cur)) ++ (prs (rkF ns cur a)).take k) (ns.idxOf y)) (by tm_at "hp"), ?_⟩
        repeat (tm_at "aw")
        refine ⟨"list.index", M_index hns₃, ?_⟩
        repeat (tm_at "aw")
        refine S_get (v := .int x) (by tm_at "hp") (by omega) (by omega) (by rw [nums_get?, show (1 + (k : Int) - 1).toNat = k by omega, hx]; rfl) ?_
        refine AVL_nil ?_
        refine A_index hns₃ b5 (by omega) hxb ?_
        refine AVL_nil ?_
        refine A_add (S := setOf (allPrs ((as.take n).map (rkF ns cur)) ++ (prs (rkF ns cur a)).take k) (ns.idxOf y)) (by tm_at "hp") (by omega) ?_
        repeat (tm_at "aw")
        have hdm := List.mem_of_getElem? hd
        refine ⟨by tm_at "loc", by tm_at "loc", by tm_at "loc", by tm_at "loc", j5.updF (hnone' d hdm), hp_skip (by rintro rfl; exact hDds hdm) j6, hp_skip ?_ j7, ?_⟩
        · rintro rfl; rw [hdset] at j7; cases j7
        · rw [take_succ_at (prs_get hx' hy'), ← List.append_assoc]
          exact j8.add hnd hd (ns.idxOf x)
      · rintro σ₃ E₂ ⟨j1, j2, j3, j4, j5, j6, j7, j8⟩
        repeat (tm_at "aw")
        refine ⟨j1, j2, j3, j5, j6, ?_⟩
        rw [intsFrom_length] at j8
        rw [allPrs_take ha]
        rwa [List.take_of_length_le (l := prs (rkF ns cur a)) (by rw [prs_length, show (rkF ns cur a).length = (cur a).length by unfold rkF; rw [List.length_map]]; omega)] at j8
    · rintro σ' E₁ ⟨i1, i2, i3, i4, i5, i6⟩
      rw [refs_length, List.take_length] at i6
      repeat (tm_at "aw")
      exact ⟨rfl, i2, i3, i4, i5, i6⟩
  · rintro f σ₁ ⟨rfl, i2, i3, i4, i5, i6⟩
    generalize hb : setOf (allPrs (as.map (rkF ns cur))) = base at i6 hQ
    repeat (tm_at "aw")
    refine AG.mono (Q := fun f σ' => f = .next ∧ σ'.loc (Str.ofString "ahead") = some (.ref D) ∧ Ext σ.hp σ'.hp ∧ ∃ ds', ds'.length = size ∧ σ'.hp D = some (.list (refs ds')) ∧ SetsAt σ'.hp ds' (War base size)) ?_ ?_
    · have hns₁ := i4 _ _ hns
      refine AF_for ?_
      repeat (tm_at "aw")
      rename_i dm hm
      rw [nums_length, hsize]
      refine ⟨_, _, iter_range hF.hd (lo := 0) (hi := (size : Int)) (by omega) (by omega) (by omega) (by omega), hp_here, fun vs e => ?_⟩
      subst e
      refine ⟨fun m σ' => σ'.loc (Str.ofString "names") = some (.ref ln) ∧ σ'.loc (Str.ofString "ahead") = some (.ref D) ∧ Ext σ.hp σ'.hp ∧ σ'.hp dm = some (.range 0 size) ∧
        ∃ ds', ds'.length = size ∧ σ'.hp D = some (.list (refs ds')) ∧ SetsAt σ'.hp ds' (War base m), ⟨by tm_at "loc", by tm_at "loc", i4.pt hm, hp_here, ds, hlen', hp_new hm i5, i6.ext ((Ext.refl _).pt hm)⟩, fun i σ' h => h.2.2.2.1, ?_, ?_⟩
      · rintro m v σ₂ C₁ E₁ hv ⟨j1, j2, j3, j4, ds₁, j5, j6, j7⟩ hlike
        have hF₁ := hF.like hlike
        obtain ⟨hml, rfl⟩ := intsFrom_get hv
        have hns₂ := j3 _ _ hns
        repeat (tm_at "aw")
        refine AF_for ?_
        repeat (tm_at "aw")
        rename_i dn hn
        rw [nums_length, hsize]
        have hdmn : dm ≠ dn := by rintro rfl; rw [show (σ₂.st (Str.ofString "middle") (.int (0 + (m : Int)))).hp dm = _ from j4] at hn; cases hn
        refine ⟨_, _, iter_range hF₁.hd (lo := 0) (hi := (size : Int)) (by omega) (by omega) (by omega) (by omega), hp_here, fun vs e => ?_⟩
        subst e
        refine ⟨fun o σ' => σ'.loc (Str.ofString "names") = some (.ref ln) ∧ σ'.loc (Str.ofString "ahead") = some (.ref D) ∧ σ'.loc (Str.ofString "middle") = some (.int (0 + m)) ∧ Ext σ.hp σ'.hp ∧ σ'.hp dm = some (.range 0 size) ∧ σ'.hp dn = some (.range 0 size) ∧
          ∃ ds', ds'.length = size ∧ σ'.hp D = some (.list (refs ds')) ∧ SetsAt σ'.hp ds' (WarU base m o), ?_, fun i σ' h => h.2.2.2.2.2.1, ?_, ?_⟩
        · refine ⟨by tm_at "loc", by tm_at "loc", by tm_at "loc", j3.pt hn, hp_skip hdmn j4, hp_here, ds₁, j5, hp_new hn j6, ?_⟩
          rw [WarU_zero]
          exact j7.ext ((Ext.refl _).pt hn)
        · rintro o v σ₃ C₂ E₂ hv₂ ⟨k1, k2, k3, k4, k5, k6, ds₂, k7, k8, k9⟩ hlike₂
          have hF₂ := hF₁.like hlike₂
          obtain ⟨hol, rfl⟩ := intsFrom_get hv₂
          obtain ⟨d1, hd1⟩ : ∃ d, ds₂[o]? = some d := ⟨_, List.getElem?_eq_getElem (by omega)⟩
          obtain ⟨d2, hd2⟩ : ∃ d, ds₂[m]? = some d := ⟨_, List.getElem?_eq_getElem (by omega)⟩
          have hs1 := k9 o d1 hd1
          have hs2 := k9 m d2 hd2
          rw [WarU_self] at hs1
          rw [WarU_mid] at hs2
          have g1 : (refs ds₂)[(0 + (o : Int)).toNat]? = some (.ref d1) := by rw [show (0 + (o : Int)).toNat = o by omega]; unfold refs; rw [List.getElem?_map, hd1]; rfl
          have g2 : (refs ds₂)[(0 + (m : Int)).toNat]? = some (.ref d2) := by rw [show (0 + (m : Int)).toNat = m by omega]; unfold refs; rw [List.getElem?_map, hd2]; rfl
          repeat (tm_at "aw")
          cases hb2 : War base m o (0 + m) with
          | true =>
            have hb3 : War base m o m = true := by rw [← hb2]; congr 1; omega
            refine ite_t rfl ?_
            repeat (tm_at "aw")
            rename_i dN hN
            refine SetIs.mk (hp_new hN k8) (by omega) (by rw [refs_length]; omega) (line_ok (by rw [refs_length]; omega)) ?_
            repeat (tm_at "aw")
            rw [show (0 + (o : Int)).toNat = o by omega, refs_set]
            have hDm : dm ≠ D := by rintro rfl; rw [k5] at k8; cases k8
            have hDn' : dn ≠ D := by rintro rfl; rw [k6] at k8; cases k8
            refine ⟨by tm_at "loc", by tm_at "loc", by tm_at "loc", (k4.upd hN).updF hDn, hp_skip hDm (hp_new hN k5), hp_skip hDn' (hp_new hN k6), ds₂.set o dN, by simp [k7], hp_here, ?_⟩
            refine SetsAt.skip ?_ (hp_new hN k8)
            refine (k9.ext ((Ext.refl _).upd hN)).put ?_ (fun i hi => WarU_next _ _ _ _ hi)
            rw [show WarU base m (o + 1) o = War base (m + 1) o by unfold WarU; rw [if_pos (by omega)], ← WarU_yes hb3]
            exact hp_here
          | false =>
            have hb3 : War base m o m = false := by rw [← hb2]; congr 1; omega
            refine ite_f rfl ?_
            repeat (tm_at "aw")
            refine ⟨by tm_at "loc", by tm_at "loc", by tm_at "loc", k4, k5, k6, ds₂, k7, k8, fun i d hd => ?_⟩
            by_cases hio : i = o
            · subst hio
              rw [hd1] at hd; cases hd
              unfold WarU
              rw [if_pos (by omega), WarU_no hb3]
              exact hs1
            · rw [WarU_next _ _ _ _ hio]; exact k9 i d hd
        · rintro σ₃ E₂ ⟨k1, k2, k3, k4, k5, k6, ds₂, k7, k8, k9⟩
          repeat (tm_at "aw")
          rw [intsFrom_length, show ((size : Int) - 0).toNat = ds₂.length by omega] at k9
          exact ⟨k1, k2, k4, k5, ds₂, k7, k8, k9.warEnd⟩
      · rintro σ₂ E₁ ⟨j1, j2, j3, j4, ds₁, j5, j6, j7⟩
        repeat (tm_at "aw")
        rw [intsFrom_length, show ((size : Int) - 0).toNat = size by omega] at j7
        exact ⟨rfl, j2, j3, ds₁, j5, j6, j7⟩
    · rintro f σ₂ ⟨rfl, k1, k2, ds₂, k3, k4, k5⟩
      repeat (tm_at "aw")
      exact hQ D ds₂ _ k2 hDn k4 k3 k5

set_option maxRecDepth 100000 in
theorem ahead_fn {C : Cx} {E} {σ : AS} {fa l ln : Addr} {as : List Addr} {cur : Addr → List Int} {ns : List Int} {size : Nat} {Q : PV → AS → Prop} (hd : C.hd = true) (hf : C.G.isFn (fAhead fa)) (hb : 0 < C.bud)
    (hrange : C.G.gt (Str.ofString "range") = some (.type "range")) (hset : C.G.gt (Str.ofString "set") = some (.type "set")) (hlenf : C.G.gt (Str.ofString "len") = some (.builtin "len"))
    (hs : σ.hp l = some (.list (refs as))) (hns : σ.hp ln = some (.list (nums ns))) (hat : AtF σ.hp as cur)
    (b1 : as.length ≤ 1000) (b2 : ∀ a ∈ as, (cur a).length ≤ 1000) (hsize : ns.length = size) (b3 : size ≤ 12) (b4 : ∀ a ∈ as, ∀ x ∈ cur a, x ∈ ns) (b5 : ∀ x ∈ ns, 0 ≤ x ∧ x < 64)
    (hQ : ∀ d ds hp', Ext σ.hp hp' → σ.hp d = none → hp' d = some (.list (refs ds)) → ds.length = size → SetsAt hp' ds (War (setOf (allPrs (as.map (rkF ns cur)))) size) → Q (.ref d) ⟨σ.loc, hp'⟩) :
    ACall C (.ref fa) [.ref l, .ref ln] Q E σ := by
  refine A_fn (f := fAhead fa) hf hb ?_ rfl rfl rfl rfl fun C' E' hF => ?_
  · intro us pm cd doc h
    obtain ⟨u, v, rfl⟩ := len2 h
    rfl
  exact ahead_body (hF.in hd) hrange hset hlenf rfl rfl hs hns hat b1 b2 hsize b3 b4 b5 fun d ds σ' h1 h2 h3 h4 h5 => hQ d ds σ'.hp h1 h2 h3 h4 h5

abbrev fKey (a : Addr) : Fn := fnAt PySem.Challenge.pw_kr0004_01 6 a
def cardS (L : Int → Bool) : Nat := ((List.range 12).filter fun (i : Nat) => L (i : Int)).length
theorem cardS_le (L : Int → Bool) : cardS L ≤ 12 := by
  unfold cardS
  refine Nat.le_trans (List.length_filter_le _ _) (by simp)
theorem cardS_lt {L L' : Int → Bool} (hs : ∀ j, L' j = true → L j = true) {m : Int} (h0 : 0 ≤ m) (h12 : m < 12) (hm : L m = true) (hm' : L' m = false) : cardS L' < cardS L := by
  have e : ((List.range 12).filter fun (i : Nat) => L' (i : Int)) = ((List.range 12).filter fun (i : Nat) => L (i : Int)).filter fun (i : Nat) => L' (i : Int) := by
    rw [List.filter_filter]
    refine List.filter_congr fun i _ => ?_
    cases e : L' (i : Int) with
    | false => rfl
    | true => rw [hs _ e]; rfl
  unfold cardS
  rw [e, List.length_filter_lt_length_iff_exists]
  refine ⟨m.toNat, List.mem_filter.mpr ⟨List.mem_range.mpr (by omega), ?_⟩, ?_⟩
  · rw [Int.toNat_of_nonneg h0]; exact hm
  · rw [Int.toNat_of_nonneg h0, hm']; decide

set_option maxRecDepth 100000 in
set_option maxHeartbeats 4000000 in
theorem key_body {G : Gl} {C : Cx} {E'} {σ : AS} {fa D : Addr} {ds : List Addr} {S : Nat → Int → Bool} {size rank : Nat} {Q : PF → AS → Prop} (hF : In G (fKey fa) C) (hmax : G.gt (Str.ofString "max") = some (.builtin "max"))
    (hr : σ.loc (Str.ofString "rank") = some (.int rank)) (hz : σ.loc (Str.ofString "ahead") = some (.ref D)) (hD : σ.hp D = some (.list (refs ds))) (hS : SetsAt σ.hp ds S) (hlen : ds.length = size) (b3 : size ≤ 12) (hrk : rank < size)
    (hirr : ∀ i, i < size → S i i = false) (hran : ∀ i j, i < size → S i j = true → 0 ≤ j ∧ j < size)
    (hQ : ∀ d ks σ', Ext σ.hp σ'.hp → σ.hp d = none → σ'.hp d = some (.list (nums ks)) → KeyOf (fun j m => S j.toNat m) rank (fun j => S rank j || decide (j = rank)) ks → ks.length ≤ 100 → Q (.ret (.ref d)) σ')
    : AF C (execs (fKey fa).body C.env) Q E' σ := by
  obtain ⟨dr, hdr⟩ : ∃ d, ds[rank]? = some d := ⟨_, List.getElem?_eq_getElem (by omega)⟩
  have hdrs := hS rank dr hdr
  have hgr : (refs ds)[((rank : Nat) : Int).toNat]? = some (.ref dr) := by rw [Int.toNat_natCast]; unfold refs; rw [List.getElem?_map, hdr]; rfl
  refine AF_cons ?_
  repeat (tm_at "aw")
  rename_i d1 h1
  refine ⟨rank, by omega, rfl, hp_here, ?_⟩
  have hdr1 : dr ≠ d1 := ne_of_some hdrs h1
  refine B_orS (S := S rank) (S' := fun j => decide (j = (rank : Int))) (hp_skip hdr1 (hp_skip hdr1 hdrs)) hp_here fun l0 hl0 => ?_
  have X1 : Ext σ.hp ((σ.pt d1 (.set fun _ => false)).pt d1 (.set fun j => decide (j = (rank : Int)))).hp := ((Ext.refl _).upd h1).updF h1
  have hl0' := none_of_ext X1 hl0
  have X2 := X1.upd (o := .set fun j => S rank j || decide (j = (rank : Int))) hl0
  repeat (tm_at "aw")
  refine A_maxS (S := fun j => S rank j || decide (j = (rank : Int))) hF.hd hp_here ⟨rank, by simp⟩ fun M hM1 hM2 => ?_
  refine AVL_nil ?_
  refine ⟨line_ok (by simp), fun lk hlk => ?_⟩
  have hlk' := none_of_ext X2 hlk
  have X3 := X2.upd (o := .list [.int M]) hlk
  refine ⟨hF.w rfl, ?_⟩
  refine AF_cons ?_
  refine AG.mono (Q := fun f σ' => f = .next ∧ Ext σ.hp σ'.hp ∧ ∃ lk ks, σ'.loc (Str.ofString "key") = some (.ref lk) ∧ σ.hp lk = none ∧ σ'.hp lk = some (.list (nums ks)) ∧ KeyOf (fun j m => S j.toNat m) rank (fun j => S rank j || decide (j = (rank : Int))) ks ∧ ks.length ≤ 100) ?_ ?_
  rotate_left
  · rintro f σ' ⟨rfl, x1, lk, ks, x2, x3, x4, x5, x6⟩
    repeat (tm_at "aw")
    exact hQ lk ks _ x1 x3 x4 x5 x6
  have hL0r : ∀ j, (S rank j || decide (j = (rank : Int))) = true → 0 ≤ j ∧ j < size := fun j hj => by
    rcases Bool.or_eq_true_iff.mp hj with h | h
    · exact hran rank j hrk h
    · have : j = (rank : Int) := by simpa using h
      omega
  refine AF_while (fun n σ' => ∃ (kp : List Int) (m : Int) (L : Int → Bool) (lk l' : Addr), cardS L = n ∧ kp.length + n ≤ 12 ∧ σ'.loc (Str.ofString "rank") = some (.int rank) ∧ σ'.loc (Str.ofString "ahead") = some (.ref D) ∧ σ'.loc (Str.ofString "key") = some (.ref lk) ∧
    σ'.loc (Str.ofString "left") = some (.ref l') ∧ Ext σ.hp σ'.hp ∧ σ.hp lk = none ∧ σ.hp l' = none ∧ σ'.hp lk = some (.list (nums kp ++ [.int m])) ∧ σ'.hp l' = some (.set L) ∧ IsMaxS L m ∧ L rank = true ∧ (∀ j, L j = true → S rank j = true ∨ j = (rank : Int)) ∧
    ∀ ks, KeyOf (fun j m => S j.toNat m) rank L (m :: ks) → KeyOf (fun j m => S j.toNat m) rank (fun j => S rank j || decide (j = (rank : Int))) (kp ++ m :: ks)) (cardS fun j => S rank j || decide (j = (rank : Int))) ?_ ?_
  · refine ⟨[], M, _, lk, l0, rfl, by have := cardS_le fun j => S rank j || decide (j = (rank : Int)); simp; omega, by tm_at "loc", by tm_at "loc", by tm_at "loc", by tm_at "loc", X3, hlk', hl0', hp_here, hp_new hlk hp_here, ⟨hM1, hM2⟩, by simp, fun j hj => by simpa using hj, fun ks h => h⟩
  rintro n σ₁ E₁ ⟨kp, m, L, lk, l', i1, i2, i3, i4, i5, i6, i7, i8, i9, i10, i11, i12, i13, i14, i15⟩
  have hmr : 0 ≤ m ∧ m < size := hL0r m (by rcases i14 m i12.1 with h | h <;> simp [h])
  refine AB_compare ?_
  refine AV_subscript ?_
  refine AV_name i5 ?_
  refine AV_unary ?_
  refine AV_int ?_
  refine B_neg ?_
  refine S_last i10 ?_
  refine AV_name i3 ?_
  refine B_nei ?_
  refine AT_bool ?_
  by_cases hm : m = (rank : Int)
  · refine ite_f (by simpa using hm) ?_
    refine AF_nil ⟨rfl, i7, lk, kp ++ [m], i5, i8, by rw [nums_append]; exact i10, i15 [] (by rw [hm]; exact .last (hm ▸ i12)), by rw [List.length_append]; simp; omega⟩
  · refine ite_t (by simpa using hm) ?_
    refine AF_cons ?_
    refine AF_assign_setComp hF.comp hF.hd (hF.w rfl) ?_
    refine AV_name i6 ?_
    have hlkl : lk ≠ l' := by rintro rfl; rw [i10] at i11; cases i11
    have hsome : ∀ {a o}, σ.hp a = some o → a ≠ l' := fun {a o} e q => by rw [q, i9] at e; cases e
    have XE : Ext σ.hp (ers σ₁.hp l') := fun a o e => by rw [ers_ne (hsome e)]; exact i7 a o e
    refine ⟨l', L, fun j => S j.toNat m, rfl, i11, ?_, ?_⟩
    · intro k hp C' E'' hk12 hLk hext hC
      have hkr := hL0r k (by rcases i14 k hLk with h | h <;> simp [h])
      obtain ⟨dk, hdk⟩ : ∃ d, ds[k]? = some d := ⟨_, List.getElem?_eq_getElem (by omega)⟩
      have f1 := hext _ _ (XE _ _ hD)
      have f2 := hext _ _ (XE _ _ (hS k dk hdk))
      have f3 := hext _ _ (show ers σ₁.hp l' lk = some (.list (nums kp ++ [.int m])) by rw [ers_ne hlkl]; exact i10)
      have hg : (refs ds)[((k : Nat) : Int).toNat]? = some (.ref dk) := by rw [Int.toNat_natCast]; unfold refs; rw [List.getElem?_map, hdk]; rfl
      refine AB_compare ?_
      refine AV_subscript ?_
      refine AV_name (v := .ref lk) (by tm_at "loc") ?_
      refine AV_unary ?_
      refine AV_int ?_
      refine B_neg ?_
      refine S_last f3 ?_
      repeat (tm_at "aw")
      have hsk : (fun j : Int => S j.toNat m) (k : Int) = S k m := by show S ((k : Int)).toNat m = _; rw [Int.toNat_natCast]
      cases hb : S k m with
      | true =>
        refine ite_t rfl ?_
        refine ⟨hsk.trans hb, ?_⟩
        refine AV_name (v := .int k) (by tm_at "loc") ⟨rfl, hext⟩
      | false =>
        refine ite_f (by decide) ?_
        exact ⟨hsk.trans hb, hext⟩
    · intro hp Dn hext hDn hDn0
      have hDnl : Dn ≠ lk := by rintro rfl; rw [hDn0] at i10; cases i10
      have X4 := (XE.trans hext).upd (o := .set fun j => L j && S j.toNat m) hDn
      have hkey : (upd hp Dn (.set fun j => L j && S j.toNat m)) lk = some (.list (nums kp ++ [.int m])) := upd_new hDn (hext _ _ (by rw [ers_ne hlkl]; exact i10))
      have hsr : S rank m = true := (i14 m i12.1).elim id fun h => absurd h hm
      have hrl : (L (rank : Int) && S (rank : Int).toNat m) = true := by rw [i13, Int.toNat_natCast, hsr]; rfl
      have hmm : S m.toNat m = false := by
        have := hirr m.toNat (by omega)
        rwa [Int.toNat_of_nonneg hmr.1] at this
      have hDn' : σ.hp Dn = none := none_of_ext (XE.trans hext) hDn
      change AF C (execs _ C.env) _ E₁ (AS.st ⟨σ₁.loc, upd hp Dn (.set fun j => L j && S j.toNat m)⟩ (Str.ofString "left") (.ref Dn))
      refine AF_cons ?_
      refine AF_expr ?_
      refine AV_method ?_ (by rfl)
      refine AV_name (v := .ref lk) (by tm_at "loc") ?_
      refine ⟨"list.append", M_append hkey, ?_⟩
      refine AVL_cons ?_
      refine AV_call ?_
      repeat (tm_at "aw")
      refine A_maxS (S := fun j => L j && S j.toNat m) hF.hd upd_here ⟨rank, hrl⟩ fun M hM1 hM2 => ?_
      refine AVL_nil ?_
      refine A_append hkey (line_ok (by rw [List.length_append, nums_length]; simp; omega)) ?_
      refine ⟨rfl, ?_⟩
      refine AF_nil ?_
      have hlt : cardS (fun j => L j && S j.toNat m) < n := by
        rw [← i1]
        exact cardS_lt (fun j hj => (Bool.and_eq_true_iff.mp hj).1) hmr.1 (by omega) i12.1 (by rw [hmm, Bool.and_false])
      refine ⟨_, hlt, kp ++ [m], M, _, lk, Dn, rfl, by rw [List.length_append]; simp; omega, by tm_at "loc", by tm_at "loc", by tm_at "loc", by tm_at "loc", X4.updF i8, i8, hDn', ?_, hp_skip hDnl upd_here, ⟨hM1, hM2⟩, hrl, fun j hj => i14 j (Bool.and_eq_true_iff.mp hj).1, fun ks h => ?_⟩
      · rw [nums_append]; exact hp_here
      · have := i15 (M :: ks) (.more i12 hm h)
        simpa using this

set_option maxRecDepth 100000 in
theorem key_fn {C : Cx} {E} {σ : AS} {fa D : Addr} {ds : List Addr} {S : Nat → Int → Bool} {size rank : Nat} {Q : PV → AS → Prop} (hd : C.hd = true) (hf : C.G.isFn (fKey fa)) (hb : 0 < C.bud) (hmax : C.G.gt (Str.ofString "max") = some (.builtin "max"))
    (hD : σ.hp D = some (.list (refs ds))) (hS : SetsAt σ.hp ds S) (hlen : ds.length = size) (b3 : size ≤ 12) (hrk : rank < size)
    (hirr : ∀ i, i < size → S i i = false) (hran : ∀ i j, i < size → S i j = true → 0 ≤ j ∧ j < size)
    (hQ : ∀ d ks hp', Ext σ.hp hp' → σ.hp d = none → hp' d = some (.list (nums ks)) → KeyOf (fun j m => S j.toNat m) rank (fun j => S rank j || decide (j = rank)) ks → ks.length ≤ 100 → Q (.ref d) ⟨σ.loc, hp'⟩) : ACall C (.ref fa) [.int rank, .ref D] Q E σ := by
  refine A_fn (f := fKey fa) hf hb ?_ rfl rfl rfl rfl fun C' E' hF => ?_
  · intro us pm cd doc h
    obtain ⟨u, v, rfl⟩ := len2 h
    rfl
  exact key_body (hF.in hd) hmax rfl rfl hD hS hlen b3 hrk hirr hran fun d ks σ' h1 h2 h3 h4 h5 => hQ d ks σ'.hp h1 h2 h3 h4 h5


theorem sOk : PyData.strOk incon = true := by decide +kernel

set_option maxRecDepth 100000 in
set_option maxHeartbeats 8000000 in
theorem law_due {G : Gl} {C : Cx} {E} {fa : Addr} {a1 a3 a4 a5 a6 : Addr} (hF : In G (fLaw fa) C) (hb : C.bud = 50) (ht : Tops G a1 a3 a4 a5 a6) {σ : AS} {lr ln la lg : Addr} {as ds : List Addr} {rs : Rows} {Q : PF → AS → Prop}
    (V : St1 σ lr ln la lg as ds rs) (p : P1 rs)
    (hQ : ∀ σ', SameL σ σ' [Str.ofString "keys", Str.ofString "due"] → Ext σ.hp σ'.hp → ((ringL (aheadS rs) (namesOf rs).length = [] ∧ ∃ dD due, σ'.loc (Str.ofString "due") = some (.ref dD) ∧ σ'.hp dD = some (.list (nums due)) ∧ DueOk rs due) ∨
      (ringL (aheadS rs) (namesOf rs).length ≠ [] ∧ σ'.loc (Str.ofString "due") = some (.str incon))) → AF C (execs ((fLaw fa).body.drop 5) C.env) Q E σ') : AF C (execs ((fLaw fa).body.drop 4) C.env) Q E σ := by
  have hlenf := ht.len
  have hrange := ht.range
  have hsorted := ht.sorted
  have hg6 := ht.g6
  have I6 : C.G.isFn (fKey a6) := by rw [hF.G]; exact ht.i6
  have v1 := V.l1
  have v2 := V.l2
  have v3 := V.l3
  have v4 := V.l4
  have w1 := V.h1
  have w2 := V.h2
  have w3 := V.h3
  have w4 := V.h4
  have hdl := V.dl
  have N2 := p.two
  have N12 := p.twelve
  have nz : (nums (namesOf rs)).length ≤ sizeLine := line_ok (by rw [nums_length]; omega)
  refine AF_cons ?_
  refine AG.mono (Q := fun f σ' => f = .next ∧ SameL σ σ' [Str.ofString "keys", Str.ofString "due"] ∧ Ext σ.hp σ'.hp ∧ ((ringL (aheadS rs) (namesOf rs).length = [] ∧ ∃ dD due, σ'.loc (Str.ofString "due") = some (.ref dD) ∧ σ'.hp dD = some (.list (nums due)) ∧ DueOk rs due) ∨
      (ringL (aheadS rs) (namesOf rs).length ≠ [] ∧ σ'.loc (Str.ofString "due") = some (.str incon)))) ?_ ?_
  rotate_left
  · rintro f σ' ⟨rfl, x1, x2, x3⟩
    exact hQ σ' x1 x2 x3
  repeat (tm_at "aw")
  rename_i dE hE
  have X1 : Ext σ.hp (σ.pt dE (.list [])).hp := (Ext.refl _).pt hE
  refine B_eqL (xs := ringL (aheadS rs) (namesOf rs).length) (ys := []) (X1 _ _ w4) hp_here ?_
  repeat (tm_at "aw")
  by_cases hr : ringL (aheadS rs) (namesOf rs).length = []
  · refine ite_t (by simp [hr]) ?_
    have hirr := ringL_nil.mp hr
    repeat (tm_at "aw")
    refine AV_listComp hF.comp ?_
    repeat (tm_at "aw")
    rename_i dr hdr
    rw [nums_length]
    have X2 : Ext σ.hp (upd (upd σ.hp dE (.list [])) dr (.range 0 (namesOf rs).length)) := ((Ext.refl _).upd hE).upd hdr
    refine comp_newR (iter_range hF.hd (lo := 0) (hi := ((namesOf rs).length : Int)) (by omega) (by omega) (by omega) (by omega)) (fun hp e => e _ _ upd_here) (line_ok (by rw [intsFrom_length]; omega))
      (fun v o => ∃ (i : Nat) (ks : List Int), v = .int i ∧ o = .list (nums ks) ∧ KeyOf (aheadA rs) i (fun j => aheadS rs i j || decide (j = i)) ks ∧ ks.length ≤ 100) ?_ ?_
    · intro v hv hp C' E'' hext hC
      obtain ⟨k, hk⟩ := List.mem_iff_getElem?.mp hv
      obtain ⟨hkl, rfl⟩ := intsFrom_get hk
      rw [Int.zero_add]
      have hext' : Ext (upd (upd σ.hp dE (.list [])) dr (.range 0 (namesOf rs).length)) hp := hext
      have hgl : C'.gl (Str.ofString "_law_key") = true := by rw [hC.gl]; rfl
      have hgt : C'.G.gt (Str.ofString "_law_key") = some (.ref a6) := by rw [hC.G]; exact hF.gt hg6
      have I6' : C'.G.isFn (fKey a6) := by rw [hC.G]; exact I6
      refine AV_call (AV_glob hgl hgt ⟨_, rfl, keeper_fn (f := fKey a6) I6', ?_⟩)
      repeat (tm_at "aw")
      refine key_fn (rank := k) (hC.hd.trans hF.hd) I6' (by rw [hC.bud]; omega) (by rw [hC.G]; exact hF.gt ht.max) (hext' _ _ (X2 _ _ w3)) (V.ss.ext (X2.trans hext')) hdl (by omega) (by omega) hirr (fun i j _ h => ahead_range h) ?_
      intro d ks hp' x1 x2 x3 x4 x5
      exact ⟨d, rfl, x2, x1, _, x3, k, ks, rfl, rfl, x4, x5⟩
    rw [show (((namesOf rs).length : Int) - 0).toNat = (namesOf rs).length by omega]
    intro hp D ks hext hD hlen hnd hnone hall
    rw [intsFrom_length] at hlen
    have hext' : Ext (upd (upd σ.hp dE (.list [])) dr (.range 0 (namesOf rs).length)) hp := hext
    have X3 : Ext σ.hp (upd hp D (.list (refs ks))) := (X2.trans hext').upd hD
    have hkey : ∀ (i : Nat) a, ks[i]? = some a → ∃ kk, hp a = some (.list (nums kk)) ∧ KeyOf (aheadA rs) i (fun j => aheadS rs i j || decide (j = i)) kk := fun i a ha => by
      have hi : i < ks.length := (List.getElem?_eq_some_iff.mp ha).1
      have hiv : (intsFrom 0 (namesOf rs).length)[i]? = some (.int (0 + (i : Int))) := by
        unfold intsFrom
        rw [List.getElem?_map, List.getElem?_range (by omega)]; rfl
      obtain ⟨o, ho, j, kk, e1, rfl, h1, _⟩ := hall i a _ ha hiv
      have : j = i := by injection e1 with e1; omega
      subst this
      exact ⟨kk, ho, h1⟩
    have hkey' : ∀ (i : Nat) a, ks[i]? = some a → KeyOf (aheadA rs) i (fun j => aheadS rs i j || decide (j = i)) (curOf hp a) := fun i a ha => by
      obtain ⟨kk, h1, h2⟩ := hkey i a ha
      rw [curOf_at h1]; exact h2
    have hatF : AtF (upd hp D (.list (refs ks))) ks (curOf hp) := fun a ha => by
      obtain ⟨i, hi⟩ := List.mem_iff_getElem?.mp ha
      obtain ⟨kk, h1, h2⟩ := hkey i a hi
      rw [curOf_at h1]; exact upd_new hD h1
    refine AVL_nil ?_
    refine A_sortedL (cur := curOf hp) upd_here hatF (by omega) (by omega) ?_ ?_
    · intro i j a b ha hb' hij e
      have h1 := (hkey' i a ha).getLast
      have h2 := (hkey' j b hb').getLast
      rw [e, h2] at h1
      injection h1 with h1
      omega
    intro d bs hd hperm hpair
    have X4 : Ext σ.hp (upd (upd hp D (.list (refs ks))) d (.list (refs bs))) := X3.upd hd
    have hblen : bs.length = ks.length := hperm.length_eq
    refine ⟨hF.w rfl, ?_⟩
    refine AF_cons ?_
    refine AF_assign_listComp hF.comp (hF.w rfl) ?_
    repeat (tm_at "aw")
    refine comp_pure (iter_list hF.hd) (fun hp e => e _ _ hp_here) (line_ok (by rw [refs_length]; omega)) (dueF rs ks) ?_ ?_
    · intro v hv hp' C' E'' hext2 hC
      obtain ⟨b, hbm, rfl⟩ := List.mem_map.mp hv
      have hbk : b ∈ ks := hperm.mem_iff.mp hbm
      have hbi := List.idxOf_lt_length_iff.mpr hbk
      have hbg : ks[ks.idxOf b]? = some b := by rw [List.getElem?_eq_getElem hbi, List.getElem_idxOf]
      obtain ⟨kk, h1, h2⟩ := hkey _ b hbg
      have hlast := h2.getLast
      obtain ⟨pre, e⟩ := List.getLast?_eq_some_iff.mp hlast
      have hext2' : Ext (upd (upd hp D (.list (refs ks))) d (.list (refs bs))) hp' := hext2
      have f1 := hext2' _ _ (upd_new hd (upd_new hD h1))
      rw [e, nums_append] at f1
      have f2 := hext2' _ _ (X4 _ _ w2)
      have hg : (nums (namesOf rs))[((ks.idxOf b : Nat) : Int).toNat]? = some (.int ((namesOf rs).getD (ks.idxOf b) 0)) := by
        rw [Int.toNat_natCast, nums_get?, List.getD_eq_getElem?_getD, List.getElem?_eq_getElem (by omega)]; rfl
      show AV C' _ _ E'' _
      refine AV_subscript ?_
      refine AV_name (v := .ref ln) (by tm_at "loc") ?_
      refine AV_subscript ?_
      refine AV_name (v := .ref b) (by tm_at "loc") ?_
      refine AV_unary ?_
      refine AV_int ?_
      refine B_neg ?_
      refine S_last f1 ?_
      refine S_get f2 (by omega) (by omega) hg ?_
      exact ⟨Ext.refl _, rfl⟩
    rw [dueF_map]
    intro hp' D' hext2 hD'
    have hext2' : Ext (upd (upd hp D (.list (refs ks))) d (.list (refs bs))) hp' := hext2
    refine AF_nil ?_
    refine ⟨rfl, ?_, (X4.trans hext2').upd hD', .inl ⟨hr, D', _, loc_here, upd_here, dueOk_of hnd hlen hkey' hperm hpair⟩⟩
    exact ((show SameL σ ⟨σ.loc, upd hp' D' (.list (nums (bs.map fun b => (namesOf rs).getD (ks.idxOf b) 0)))⟩ [Str.ofString "keys", Str.ofString "due"] from fun x hx => rfl).st (by simp)).st (by simp)
  · refine ite_f (by simp [hr]) ?_
    repeat (tm_at "aw")
    exact ⟨rfl, (show SameL σ (σ.pt dE (.list [])) [Str.ofString "keys", Str.ofString "due"] from fun x hx => rfl).st (by simp), X1, .inr ⟨hr, loc_here⟩⟩


def stayF (rs : Rows) : Int → Bool := fun x => !((ringL (aheadS rs) (namesOf rs).length).filter fun r => aheadS rs ((namesOf rs).idxOf x) r).isEmpty

set_option maxRecDepth 100000 in
set_option maxHeartbeats 8000000 in
theorem law_stay {G : Gl} {C : Cx} {E} {fa : Addr} (hF : In G (fLaw fa) C) {σ : AS} {lr ln la lg : Addr} {as ds : List Addr} {rs : Rows} {Q : PF → AS → Prop}
    (V : St1 σ lr ln la lg as ds rs) (p : P1 rs)
    (hQ : ∀ hp d, Ext σ.hp hp → hp d = some (.list (nums (stayOf rs))) → AF C (execs ((fLaw fa).body.drop 6) C.env) Q E (AS.st ⟨σ.loc, hp⟩ (Str.ofString "stay") (.ref d))) : AF C (execs ((fLaw fa).body.drop 5) C.env) Q E σ := by
  have v1 := V.l1
  have v2 := V.l2
  have v3 := V.l3
  have v4 := V.l4
  have w1 := V.h1
  have w2 := V.h2
  have w3 := V.h3
  have w4 := V.h4
  have hdl := V.dl
  have N2 := p.two
  have N12 := p.twelve
  have nr := p.nrng
  have hrl : (ringL (aheadS rs) (namesOf rs).length).length ≤ 12 := by
    unfold ringL
    rw [List.length_map]
    refine Nat.le_trans (List.length_filter_le _ _) (by simp; omega)
  refine AF_cons ?_
  refine AF_assign_listComp hF.comp (hF.w rfl) ?_
  repeat (tm_at "aw")
  refine comp_pure (iter_list hF.hd) (fun hp e => e _ _ w2) (line_ok (by rw [nums_length]; omega)) (selF (stayF rs)) ?_ ?_
  · intro v hv hp C' E'' hext hC
    obtain ⟨x, hx, rfl⟩ := List.mem_map.mp hv
    have hxi := List.idxOf_lt_length_iff.mpr hx
    obtain ⟨dk, hdk⟩ : ∃ d, ds[(namesOf rs).idxOf x]? = some d := ⟨_, List.getElem?_eq_getElem (by omega)⟩
    have hg : (refs ds)[(((namesOf rs).idxOf x : Nat) : Int).toNat]? = some (.ref dk) := by rw [Int.toNat_natCast]; unfold refs; rw [List.getElem?_map, hdk]; rfl
    show AB C' _ _ E'' _
    refine AB_compare ?_
    refine AV_listComp hC.comp ?_
    refine AV_name (v := .ref lg) (by tm_at "loc") ?_
    refine comp_pure (iter_list (hC.hd.trans hF.hd)) (fun hp' e => e _ _ (hext _ _ w4)) (line_ok (by rw [nums_length]; omega)) (selF fun r => aheadS rs ((namesOf rs).idxOf x) r) ?_ ?_
    · intro v' hv' hp' C₂ E₂ hext' hC₂
      obtain ⟨r, hr, rfl⟩ := List.mem_map.mp hv'
      have hext2 : Ext hp hp' := hext'
      have f1 := hext2 _ _ (hext _ _ w2)
      have f2 := hext2 _ _ (hext _ _ w3)
      have f3 := hext2 _ _ (hext _ _ (V.ss _ dk hdk))
      show AB C₂ _ _ E₂ _
      refine AB_compare ?_
      refine AV_name (v := .int r) (by tm_at "loc") ?_
      refine AV_subscript ?_
      refine AV_name (v := .ref la) (by tm_at "loc") ?_
      refine AV_method ?_ (by rfl)
      refine AV_name (v := .ref ln) (by tm_at "loc") ?_
      refine ⟨"list.index", M_index f1, ?_⟩
      refine AVL_cons ?_
      refine AV_name (v := .int x) (by tm_at "loc") ?_
      refine AVL_nil ?_
      refine A_index f1 (fun y hy => by have := nr y hy; omega) (by omega) hx ?_
      refine S_get f2 (by omega) (by omega) hg ?_
      refine B_inS f3 ?_
      refine AT_bool ?_
      cases hw : aheadS rs ((namesOf rs).idxOf x) r with
      | true =>
        refine ite_t rfl ?_
        refine AV_name (v := .int r) (by tm_at "loc") ?_
        exact ⟨Ext.refl _, by simp only [selF, hw]; rfl⟩
      | false =>
        refine ite_f (by decide) ?_
        exact ⟨Ext.refl _, by simp only [selF, hw]; rfl⟩
    rw [selF_map]
    intro hp' D hext' hD
    refine AV_list ?_
    refine AVL_nil ?_
    refine ⟨line_ok (by simp), fun dE hE => ?_⟩
    have XX : Ext hp (upd (upd hp' D (.list (nums ((ringL (aheadS rs) (namesOf rs).length).filter fun r => aheadS rs ((namesOf rs).idxOf x) r)))) dE (.list [])) := (Ext.upd hext' hD).upd hE
    refine B_neL (xs := (ringL (aheadS rs) (namesOf rs).length).filter fun r => aheadS rs ((namesOf rs).idxOf x) r) (ys := []) (hp_new hE upd_here) hp_here ?_
    refine AT_bool ?_
    cases hl : (ringL (aheadS rs) (namesOf rs).length).filter fun r => aheadS rs ((namesOf rs).idxOf x) r with
    | nil =>
      rw [hl] at XX
      refine ite_f (by decide) ?_
      exact ⟨XX, by simp only [selF, stayF, hl]; rfl⟩
    | cons r l =>
      rw [hl] at XX
      refine ite_t (by rfl) ?_
      refine AV_name (v := .int x) (by tm_at "loc") ?_
      exact ⟨XX, by simp only [selF, stayF, hl]; rfl⟩
  rw [selF_map]
  intro hp D hext hD
  exact hQ _ D (Ext.upd hext hD) upd_here


set_option maxRecDepth 100000 in
set_option maxHeartbeats 8000000 in
theorem law_tail {G : Gl} {C : Cx} {E} {fa : Addr} {a1 a3 a4 a5 a6 : Addr} (hF : In G (fLaw fa) C) (hFr : FrOK C [] (fun _ => none)) (hsc : C.env.scope = (fLaw fa).scope) (hb : C.bud = 50) (ht : Tops G a1 a3 a4 a5 a6)
    {σ : AS} {lr ls : Addr} {as : List Addr} {rs : Rows} (p : P1 rs) (v1 : σ.loc (Str.ofString "rows") = some (.ref lr)) (v2 : σ.loc (Str.ofString "stay") = some (.ref ls))
    (w1 : σ.hp lr = some (.list (refs as))) (hat : At σ.hp as rs) (w2 : σ.hp ls = some (.list (nums (stayOf rs))))
    (hd : ((ringL (aheadS rs) (namesOf rs).length = [] ∧ ∃ dD due, σ.loc (Str.ofString "due") = some (.ref dD) ∧ σ.hp dD = some (.list (nums due)) ∧ DueOk rs due) ∨
      (ringL (aheadS rs) (namesOf rs).length ≠ [] ∧ σ.loc (Str.ofString "due") = some (.str incon)))) :
    AF C (execs ((fLaw fa).body.drop 6) C.env) (fun fl _ => fl = .ret (.bool true)) E σ := by
  have hlist := ht.list
  have hg1 := ht.g1
  have I1 : C.G.isFn (fC3 a1) := by rw [hF.G]; exact ht.i1
  have N2 := p.two
  have N12 := p.twelve
  have S1 := p.each
  have S2 := p.len
  have asl : as.length = rs.length := hat.1
  refine AF_cons ?_
  refine AF_assign_listComp hF.comp (hF.w rfl) ?_
  repeat (tm_at "aw")
  refine comp_new (iter_list hF.hd) (fun hp e => e _ _ w1) (line_ok (by rw [refs_length]; omega)) (copyOf σ.hp) ?_ ?_
  · intro v hv hp C' E'' hext hC
    obtain ⟨a, ha, rfl⟩ := List.mem_map.mp hv
    have hgl : C'.gl (Str.ofString "list") = true := by rw [hC.gl]; rfl
    have hgt : C'.G.gt (Str.ofString "list") = some (.type "list") := by rw [hC.G]; exact hF.gt hlist
    have hpa := hext _ _ (hat.atF a ha)
    refine AV_call (AV_glob hgl hgt ⟨_, rfl, keeper_type, ?_⟩)
    repeat (tm_at "aw")
    refine A_listCopy hpa (line_ok (by have := S1 _ (hat.curMem ha); rw [nums_length]; omega)) fun d hd => ⟨d, rfl, hd, (Ext.refl _).pt hd, hp_here⟩
  intro hp D cs hext hD hlen hnd hnone hall
  have hcs := copies_at (hp' := upd hp D (.list (refs cs))) hat hlen (fun i d v hd hv => upd_new hD (hall i d v hd hv))
  have hx : Ext σ.hp (upd hp D (.list (refs cs))) := Ext.upd hext hD
  have hcl : cs.length ≤ 48 := by rw [hcs.1]; exact S2
  have hDc : D ∉ cs := fun hm => by
    obtain ⟨i, hi⟩ := List.mem_iff_getElem?.mp hm
    have hil := (List.getElem?_eq_some_iff.mp hi).1
    obtain ⟨v, hv⟩ : ∃ v, (refs as)[i]? = some v := ⟨_, List.getElem?_eq_getElem (by omega)⟩
    rw [hall i D v hi hv] at hD; cases hD
  have htot : total (cs.map (curOf (upd hp D (.list (refs cs))))) ≤ 100000 := by
    rw [hcs.map]
    have := total_le S1
    have : rs.length * 47 ≤ 48 * 47 := Nat.mul_le_mul_right _ S2
    omega
  have b1 : (AS.st ⟨σ.loc, upd hp D (.list (refs cs))⟩ (Str.ofString "handed") (.ref D)).loc (Str.ofString "rows") = some (.ref lr) := by tm_at "loc"
  have b2 : (AS.st ⟨σ.loc, upd hp D (.list (refs cs))⟩ (Str.ofString "handed") (.ref D)).loc (Str.ofString "stay") = some (.ref ls) := by tm_at "loc"
  have b3 : (AS.st ⟨σ.loc, upd hp D (.list (refs cs))⟩ (Str.ofString "handed") (.ref D)).loc (Str.ofString "handed") = some (.ref D) := loc_here
  have b4 : (AS.st ⟨σ.loc, upd hp D (.list (refs cs))⟩ (Str.ofString "handed") (.ref D)).loc (Str.ofString "due") = σ.loc (Str.ofString "due") := loc_skip (by decide) rfl
  have b5 : (AS.st ⟨σ.loc, upd hp D (.list (refs cs))⟩ (Str.ofString "handed") (.ref D)).hp = upd hp D (.list (refs cs)) := rfl
  have b6 : (upd hp D (.list (refs cs))) D = some (.list (refs cs)) := upd_here
  generalize (AS.st ⟨σ.loc, upd hp D (.list (refs cs))⟩ (Str.ofString "handed") (.ref D)) = σ₃ at b1 b2 b3 b4 b5 ⊢
  rw [← b5] at hcs hx htot b6
  clear b5 hall hext hD
  refine AF_cons ?_
  refine AG.mono (Q := fun f σ' => f = .next ∧ SameL σ₃ σ' [Str.ofString "told", Str.ofString "error"] ∧ ∃ out cur' hpX b, Fx cs σ₃.hp hpX ∧ AtF hpX cs cur' ∧ Ext hpX σ'.hp ∧ C3 rs out (cs.map cur') b ∧
    ((b = true ∧ ∃ dT, σ'.loc (Str.ofString "told") = some (.ref dT) ∧ σ'.hp dT = some (.list (nums out))) ∨ (b = false ∧ σ'.loc (Str.ofString "told") = some (.str incon)))) ?_ ?_
  · refine AF_try (outer := []) (msg := incon) (QE := fun σ' => SameL σ₃ σ' [Str.ofString "told", Str.ofString "error"] ∧ ∃ out cur', Fx cs σ₃.hp σ'.hp ∧ AtF σ'.hp cs cur' ∧ C3 rs out (cs.map cur') false) hFr.stack hFr.fr (hF.g rfl) (hF.gt ht.rt)
      (by show C.env.scope.names.lookup _ = _; rw [hsc]; rfl) (hF.w rfl) ?_ ?_
    · refine AF_cons ?_
      repeat (tm_at "aw")
      refine ⟨_, rfl, keeper_fn (f := fC3 a1) I1, ?_⟩
      repeat (tm_at "aw")
      refine c3_fn (as := cs) (cur := curOf σ₃.hp) hF.hd I1 (by omega) ⟨hFr.stack, hFr.fr, by intro e he; cases he⟩ (hF.gt ht.rt) b6 hnd hcs.atF (by omega) htot ?_ ?_
      · intro out cur' hp' hc hfx hat'
        rw [hcs.map] at hc
        exact ⟨fun x hx => rfl, out, cur', hfx, hat', hc⟩
      · intro d out cur' hp' hc hfx hat' hdn hd
        rw [hcs.map] at hc
        refine ⟨hF.w rfl, ?_⟩
        repeat (tm_at "aw")
        exact ⟨rfl, (show SameL σ₃ ⟨σ₃.loc, hp'⟩ _ from fun x hx => rfl).st (by simp), out, cur', hp', true, hfx, hat', Ext.refl _, hc, .inl ⟨rfl, d, loc_here, hd⟩⟩
    · rintro σ₁ e t E' ⟨q1, out, cur', q2, q3, q4⟩ he ht' het
      refine AF_cons (AF_assign (AV_call (AV_glob (C := C.marked e) (hF.g rfl) (hF.gt ht.str) ⟨_, rfl, keeper_type, ?_⟩)))
      repeat (tm_at "aw")
      refine A_strExc (hp_st (hp_skip het hp_here)) hp_here ?_
      refine ⟨hF.w rfl, AF_nil ?_⟩
      refine ⟨rfl, ?_, out, cur', σ₁.hp, false, q2, q3, ?_, q4, .inr ⟨rfl, ?_⟩⟩
      · exact SameL.del (SameL.st (SameL.st (fun x hx => q1 x hx) (by simp)) (by simp)) (by simp)
      · exact ((Ext.refl _).upd he).upd (upd_none (Ne.symm het) ht')
      · exact loc_del (by decide) loc_here
  rintro f σ₄ ⟨rfl, sm, out, cur', hpX, b, fx, hatX, eX, hc, hT⟩
  have Y : Ext σ.hp σ₄.hp := (hx.of_fx hnone fx).trans eX
  have c1 := sm.get b1 (by decide)
  have c2 := sm.get b2 (by decide)
  have c3 := sm.get b3 (by decide)
  have c4 : σ₄.loc (Str.ofString "due") = σ.loc (Str.ofString "due") := (sm _ (by decide)).trans b4
  have z1 := Y _ _ w1
  have z2 := Y _ _ w2
  have z3 : σ₄.hp D = some (.list (refs cs)) := eX _ _ (fx _ _ b6 hDc)
  have z4 := hat.ext Y
  have z5 : AtF σ₄.hp cs cur' := fun a ha => eX _ _ (hatX a ha)
  have hri := rings_iff hc
  refine AF_cons ?_
  refine AF_return ?_
  refine AV_and2 (AG.mono (Q := fun v σ' => v = .bool true ∧ σ' = σ₄) ?_ ?_)
  · refine AV_compare ?_
    rcases hT with ⟨rfl, dT, t1, t2⟩ | ⟨rfl, t1⟩
    · refine AV_name t1 ?_
      rcases hd with ⟨_, dD, due, d1, d2, d3⟩ | ⟨hne, _⟩
      · refine AV_name (c4.trans d1) ?_
        refine B_eqL t2 (Y _ _ d2) ⟨?_, rfl⟩
        rw [d3.eq hc]; simp
      · exact absurd (hri.mpr rfl) hne
    · refine AV_name t1 ?_
      rcases hd with ⟨hr, _⟩ | ⟨_, d1⟩
      · exact absurd (hri.mp hr) (by decide)
      · refine AV_name (c4.trans d1) ?_
        refine B_eqS sOk sOk ⟨?_, rfl⟩
        simp
  rintro v σ' ⟨rfl, rfl⟩
  refine AT_bool ?_
  refine ite_t rfl ?_
  refine AV_compare ?_
  refine AV_name c3 ?_
  refine AV_listComp hF.comp ?_
  refine AV_name c1 ?_
  refine comp_new (iter_list hF.hd) (fun hp e => e _ _ z1) (line_ok (by rw [refs_length]; omega)) (cutOf σ'.hp fun x => (stayOf rs).contains x) ?_ ?_
  · intro v hv hp C' E'' hext hC
    obtain ⟨a, ha, rfl⟩ := List.mem_map.mp hv
    have hpa := hext _ _ (z4.atF a ha)
    refine AV_listComp hC.comp ?_
    refine AV_name (v := .ref a) (by tm_at "loc") ?_
    refine comp_pure (iter_list (hC.hd.trans hF.hd)) (fun hp' e => e _ _ hpa) (line_ok (by have := S1 _ (z4.curMem ha); rw [nums_length]; omega)) (selF fun x => (stayOf rs).contains x) ?_ ?_
    · intro v' hv' hp' C₂ E₂ hext' hC₂
      obtain ⟨x, hx', rfl⟩ := List.mem_map.mp hv'
      have hext2 : Ext hp hp' := hext'
      have f1 := hext2 _ _ (hext _ _ z2)
      show AB C₂ _ _ E₂ _
      refine AB_compare ?_
      refine AV_name (v := .int x) (by tm_at "loc") ?_
      refine AV_name (v := .ref ls) (by tm_at "loc") ?_
      refine B_in f1 ?_
      refine AT_bool ?_
      cases hw : (stayOf rs).contains x with
      | true =>
        refine ite_t rfl ?_
        refine AV_name (v := .int x) (by tm_at "loc") ?_
        exact ⟨Ext.refl _, by simp only [selF, hw]; rfl⟩
      | false =>
        refine ite_f (by decide) ?_
        exact ⟨Ext.refl _, by simp only [selF, hw]; rfl⟩
    rw [selF_map]
    intro hp' D' hext' hD'
    have hext2 : Ext hp hp' := hext'
    exact ⟨D', rfl, none_of_ext hext2 hD', hext2.upd hD', upd_here⟩
  intro hp' D' ns hext' hD' hlen' hnd' hnone' hall'
  have hext2 : Ext σ'.hp hp' := hext'
  have hns := cuts_at (hp' := upd hp' D' (.list (refs ns))) z4 hlen' (fun i d v hd hv => upd_new hD' (hall' i d v hd hv))
  have Z : Ext σ'.hp (upd hp' D' (.list (refs ns))) := hext2.upd hD'
  refine B_eq (.rows (as := cs) (rs := cs.map cur') (Z _ _ z3) (by rw [List.length_map]) ?_) (.rows (as := ns) (rs := rs.map fun r => r.filter fun x => (stayOf rs).contains x) upd_here hns.1 hns.2) (by intro s e; cases e) (by intro s e; cases e) ?_
  · intro i b' r hb' hr
    rw [List.getElem?_map, hb'] at hr
    cases hr
    exact Z _ _ (z5 b' (List.mem_of_getElem? hb'))
  simp only [PyData.eqv, eqv_rows]
  rw [← rest_stay hc]
  simp


theorem rkF_rows {hp : Addr → Option PO} {as : List Addr} {rs : Rows} (h : At hp as rs) : as.map (rkF (namesOf rs) (curOf hp)) = rkRows rs := by
  have e : as.map (rkF (namesOf rs) (curOf hp)) = (as.map (curOf hp)).map fun r => r.map (ix rs) := by rw [List.map_map]; rfl
  rw [e, h.map]; rfl

set_option maxRecDepth 100000 in
set_option maxHeartbeats 8000000 in
theorem law_body {G : Gl} {C : Cx} {E} {fa l : Addr} {a1 a3 a4 a5 a6 : Addr} {wv : List Value} {xs : List Int} (hF : In G (fLaw fa) C) (hFr : FrOK C [] (fun _ => none)) (hsc : C.env.scope = (fLaw fa).scope) (hb : C.bud = 50)
    (ht : Tops G a1 a3 a4 a5 a6) (hl : C.G.base.IsList l wv.toArray) (hI : VRs (nums xs) wv) (hlen : xs.length ≤ 63) :
    AF C (execs (fLaw fa).body C.env) (fun fl _ => fl = .ret (.bool true)) E ⟨updS (fun _ => none) (Str.ofString "script") (.ref l), fun _ => none⟩ := by
  have hlenf := ht.len
  have hrange := ht.range
  have hg3 := ht.g3
  have hg4 := ht.g4
  have hg5 := ht.g5
  have I3 : C.G.isFn (fRows a3) := by rw [hF.G]; exact ht.i3
  have I4 : C.G.isFn (fNames a4) := by rw [hF.G]; exact ht.i4
  have I5 : C.G.isFn (fAhead a5) := by rw [hF.G]; exact ht.i5
  refine AF_cons ?_
  refine AF_assign ?_
  refine AV_call (AV_glob (hF.g rfl) (hF.gt hg3) ⟨_, rfl, keeper_fn (f := fRows a3) I3, ?_⟩)
  repeat (tm_at "aw")
  refine rows_fn hF.hd I3 (by omega) hl hI hlen ?_
  intro hp₁ lr as rs _ w1 hat hfl hs1 hs2
  have p := p1_of hfl hs1 hs2
  have N2 := p.two
  have N12 := p.twelve
  have nr := p.nrng
  have asl : as.length = rs.length := hat.1
  refine ⟨hF.w rfl, ?_⟩
  refine AF_cons ?_
  refine AF_assign ?_
  refine AV_call (AV_glob (hF.g rfl) (hF.gt hg4) ⟨_, rfl, keeper_fn (f := fNames a4) I4, ?_⟩)
  repeat (tm_at "aw")
  refine names_fn hF.hd I4 (by omega) (hp_st w1) hat p.rng ?_
  intro ln hp₂ X2 _ w2
  replace X2 : Ext hp₁ hp₂ := X2
  refine ⟨hF.w rfl, ?_⟩
  refine AF_cons ?_
  refine AF_assign ?_
  refine AV_call (AV_glob (hF.g rfl) (hF.gt hg5) ⟨_, rfl, keeper_fn (f := fAhead a5) I5, ?_⟩)
  repeat (tm_at "aw")
  have hat2 := hat.ext X2
  refine ahead_fn (cur := curOf hp₂) (ns := namesOf rs) hF.hd I5 (by omega) (hF.gt hrange) (hF.gt ht.set) (hF.gt hlenf) (hp_st (X2 _ _ w1)) (hp_st w2) hat2.atF (by omega) (fun a ha => by have := hs2 _ (hat2.curMem ha); omega) rfl N12
    (fun a ha x hx => mem_namesOf.mpr ⟨_, hat2.curMem ha, hx⟩) (fun x hx => by have := nr x hx; omega) ?_
  intro la ds hp₃ X3 _ w3 hdl hss
  rw [rkF_rows hat2] at hss
  replace X3 : Ext hp₂ hp₃ := X3
  replace hss : SetsAt hp₃ ds (aheadS rs) := hss
  refine ⟨hF.w rfl, ?_⟩
  have u1 := X3 _ _ (X2 _ _ w1)
  have u2 := X3 _ _ w2
  have hat3 := hat2.ext X3
  have nz : (nums (namesOf rs)).length ≤ sizeLine := line_ok (by rw [nums_length]; omega)
  refine AF_cons ?_
  refine AF_assign_listComp hF.comp (hF.w rfl) ?_
  repeat (tm_at "aw")
  rename_i dr hdr
  rw [nums_length]
  have X5 : Ext hp₃ (upd hp₃ dr (.range 0 (namesOf rs).length)) := (Ext.refl _).upd hdr
  refine comp_pure (iter_range hF.hd (lo := 0) (hi := ((namesOf rs).length : Int)) (by omega) (by omega) (by omega) (by omega)) (fun hp e => e _ _ upd_here) (line_ok (by rw [intsFrom_length]; omega)) (ringF (aheadS rs)) ?_ ?_
  · intro v hv hp C' E'' hext hC
    obtain ⟨k, hk⟩ := List.mem_iff_getElem?.mp hv
    obtain ⟨hkl, rfl⟩ := intsFrom_get hk
    rw [Int.zero_add]
    have hext' : Ext (upd hp₃ dr (.range 0 (namesOf rs).length)) hp := hext
    obtain ⟨d, hd⟩ : ∃ d, ds[k]? = some d := ⟨_, List.getElem?_eq_getElem (by omega)⟩
    have f1 := hext' _ _ (X5 _ _ w3)
    have f2 := hext' _ _ (X5 _ _ (hss k d hd))
    have hg : (refs ds)[((k : Nat) : Int).toNat]? = some (.ref d) := by rw [Int.toNat_natCast]; unfold refs; rw [List.getElem?_map, hd]; rfl
    show AB C' _ _ E'' _
    repeat (tm_at "aw")
    cases hw : aheadS rs k k with
    | true =>
      refine ite_t rfl ?_
      repeat (tm_at "aw")
      exact ⟨Ext.refl _, by simp only [ringF, Int.toNat_natCast, hw]; rfl⟩
    | false =>
      refine ite_f (by decide) ?_
      exact ⟨Ext.refl _, by simp only [ringF, Int.toNat_natCast, hw]; rfl⟩
  rw [show (((namesOf rs).length : Int) - 0).toNat = (namesOf rs).length by omega, ringF_map]
  intro hp D hext hD
  have hext' : Ext (upd hp₃ dr (.range 0 (namesOf rs).length)) hp := hext
  have X6 : Ext hp₃ (upd hp D (.list (nums (ringL (aheadS rs) (namesOf rs).length)))) := X5.trans (Ext.upd hext' hD)
  refine law_due (lr := lr) (ln := ln) (la := la) (lg := D) (as := as) (ds := ds) (rs := rs) hF hb ht ?_ p ?_
  · exact { l1 := by tm_at "loc", l2 := by tm_at "loc", l3 := by tm_at "loc", l4 := by tm_at "loc", h1 := X6 _ _ u1, at_ := hat3.ext X6, h2 := X6 _ _ u2, h3 := X6 _ _ w3, dl := hdl, ss := hss.ext X6, h4 := upd_here }
  intro σ' sm X7 hdue
  have V : St1 σ' lr ln la D as ds rs := by
    refine St1.ext (σ := _) ?_ X7 sm (by decide)
    exact { l1 := by tm_at "loc", l2 := by tm_at "loc", l3 := by tm_at "loc", l4 := by tm_at "loc", h1 := X6 _ _ u1, at_ := hat3.ext X6, h2 := X6 _ _ u2, h3 := X6 _ _ w3, dl := hdl, ss := hss.ext X6, h4 := upd_here }
  clear sm X7
  refine law_stay hF V p ?_
  intro hp₅ ls X8 hst
  have v1 := V.l1
  refine law_tail hF hFr hsc hb ht p (lr := lr) (ls := ls) (as := as) (by tm_at "loc") loc_here (X8 _ _ V.h1) (V.at_.ext X8) hst ?_
  rcases hdue with ⟨h1, dD, due, h2, h3, h4⟩ | ⟨h1, h2⟩
  · exact .inl ⟨h1, dD, due, loc_skip (by decide) h2, X8 _ _ h3, h4⟩
  · exact .inr ⟨h1, loc_skip (by decide) h2⟩

theorem final_law {prog p : Program} {w : World} {loose : List Str} {mean : ExcName → Option Value} {mg mb : Str → Option Value} {s₁ : Shared} {fa c0 : Addr} {h₁ : Heap} {tk₁ : Nat} {m cm : Str → Option Value} {cells : List (Addr × Obj)}
    {E : Value → Shared → Prop} {Q : Flow → Shared → Prop} {l : Addr} {ws : List Value} {xs : List Int}
    (T : Top p loose mean mg mb s₁.heap) (hrec : recsOf p = recsOf PySem.Challenge.pw_kr0004_01)
    (hn : (biNames.all fun x => decide (Str.ofString x ∉ startupNames) && decide (Str.ofString x ∉ loose) && decide (Str.ofString x ∉ (recsOf p).map (·.name)) && decide (Str.ofString x ∉ (litsOf p).map (·.1)) &&
      decide (Str.ofString x ∉ (clssOf p loose).map (·.name)) && decide (Str.ofString x ≠ "__name__")) = true)
    (hcr : s₁.heap.CodeRec (.ref c0) (fLaw fa).name) (F : Fr s₁.heap s₁.heap.objs.size h₁ m) (N : News s₁.heap s₁.heap.objs.size h₁ cells)
    (X : CellsAre cm (cellsFrom (s₁.heap.objs.size + 1) (fLaw fa).scope.names []) cells) (hm : m (Str.ofString "script") = some (.ref l))
    (hl : s₁.heap.IsList l ws.toArray) (hI : IntsAre ws xs) (hlen : xs.length ≤ 63)
    (hfin : ∀ h' tk, (∀ b o, s₁.heap.get? b = some o → h'.get? b = some o) → Q (.ret (.bool true)) { s₁ with heap := h', toks := tk }) :
    wpAny (model prog w) (callerA.deeper (envOfC (fLaw fa).name (fLaw fa).scope s₁.heap.objs.size fa (.ref c0))) (execs (fLaw fa).body (envOfC (fLaw fa).name (fLaw fa).scope s₁.heap.objs.size fa (.ref c0))) Q E { s₁ with heap := h₁, toks := tk₁ } := by
  obtain ⟨a1, a3, a4, a5, a6, ht⟩ := tops_of (prog := prog) (w := w) T hrec hn
  exact enter (f := fLaw fa) T hcr F N X rfl (Str.ofString "script") l rfl hm (fun C hC hFr hsc hb => law_body hC hFr hsc hb ht (by rw [hC.G]; exact hl) (of_intsAre hI) hlen) hfin


end Mine

set_option maxRecDepth 100000 in
set_option maxHeartbeats 8000000 in
theorem PySem.Challenge.cw_kr0004_01_holds : PySem.Challenge.rw_kr0004_01.Holds := by
  (w_on; o_law; k_head; (case hw => w_witness2); w_strict (k_go0))
  rename_i w s₀ s₁ mg mb G Y fa o pm doc ho hg KX X V GL T B TE TW _ _ M c0 _ hcd xs hs hlay0 hL hr hl2 _ _ l ws _ hList ra w1 r0 hI hr' hc1 hc2 K0 hD h₁ tk₁ F _ _ _ _ _ _ _ _ N0 X0
  refine Mine.final_law (fa := fa) T (by kernel_rfl) (by decide +kernel) hcd F N0 X0 rfl hList hI (by omega) ?_
  intro h' tk hk
  exact ⟨.inl ⟨.bool true, .bool true, [], rfl, fun _ => rfl, .bool true, by wrow_post, fun _ => ⟨.nil, fun a ha => by cases ha⟩⟩, hk, rfl, hg⟩
