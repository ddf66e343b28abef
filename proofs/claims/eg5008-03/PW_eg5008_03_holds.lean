import PyProof.Rows.All
import Wide.All
import OpenK.AllK
import Wide.FinOn
import Lean
import PySem.Challenge.RW_eg5008_03
set_option Elab.async false
section
open PySem PySem.W PyProof.Rows
set_option maxRecDepth 10000
set_option autoImplicit false
namespace Vc

/-- built-in functions and types that the texts name -/
inductive BI where | len | isinstance | reduce
  deriving DecidableEq, Inhabited
inductive TY where | int | bytes | list | range | str | enumerate | zip
  deriving DecidableEq, Inhabited
def BI.id : BI → String
  | .len => "len" | .isinstance => "isinstance" | .reduce => "_functools.reduce"
def TY.name : TY → String
  | .int => "int" | .bytes => "bytes" | .list => "list" | .range => "range" | .str => "str" | .enumerate => "enumerate" | .zip => "zip"

/-- what a program's value says, with no heap in it -/
inductive SV where
  | unb | none | bool (b : Bool) | int (i : Int) | str (s : Str) | bytes (b : List Nat)
  | tup (l : List SV) | lst (l : List SV) | dct (ks : List Int) (vs : List SV)
  | rng (a b c : Int)
  | ref (i : Nat)
  | fn (k : Nat) | clo (k : Nat) (caps : List SV)
  | bi (b : BI) | ty (t : TY) | cls (k : Nat)
  deriving Inhabited

/-- a thing that changes -/
inductive AO where
  | list (l : List SV)
  | inst (k : Nat) (fs : List (Nat × SV))

structure St where
  vars : List SV
  objs : List AO

abbrev AD := List (Addr × Option Addr)
def adr (ad : AD) : List Addr := ad.flatMap fun p => p.1 :: p.2.toList

/-- a closure's shape: made by one def of the text -/
structure CloT where
  name : Str
  qual : Str
  params : Arguments
  body : FuncBody
  scope : Scope
  free : List Str

/-- what is fixed -/
structure G where
  prog : Program
  w : World
  h₀ : Heap
  mg : Str → Option Value
  mb : Str → Option Value
  tabs : List Addr
  tq : Addr → Str
  faddr : Nat → Addr
  caddr : Nat → Addr
  clo : Nat → CloT
  fname : Nat → Str

abbrev bObj (l : List Nat) : Array UInt8 := (l.map Nat.toUInt8).toArray
abbrev lstObj (vs : List Value) (n : Nat) : Obj := { cls := .type "list", dict := none, data := .seq vs.toArray n, slots := #[] }
abbrev tupObj (vs : List Value) (n : Nat) : Obj := { cls := .type "tuple", dict := none, data := .seq vs.toArray n, slots := #[] }
abbrev rngObj (a b c : Int) (t u v : Tok) : Obj := { cls := .type "range", dict := none, data := .fields #[.int a t, .int b u, .int c v], slots := #[] }
abbrev cellObj (v : Option Value) : Obj := { cls := .type "cell", dict := none, data := .cell v, slots := #[] }
def mt (g : G) (os : List Addr) (ad : AD) : List Addr := os ++ adr ad ++ g.tabs
/-- an object that nothing changes -/
def Fz (g : G) (os : List Addr) (ad : AD) (h : Heap) (a : Addr) (o : Obj) : Prop := h.get? a = some o ∧ a ∉ mt g os ad
/-- a code object with its name -/
def CodeFz (g : G) (os : List Addr) (ad : AD) (h : Heap) (cv : Value) (qual : Str) : Prop :=
  ∃ c' oc q t, cv = .ref c' ∧ Fz g os ad h c' oc ∧ oc.data = .fields q ∧ q[1]? = some (.str qual t)
/-- where the captured cells lie -/
def CellsAt (g : G) (os : List Addr) (ad : AD) (h : Heap) : List Str → List (Str × Addr) → List Value → Prop
  | [], cl, vs => cl = [] ∧ vs = []
  | x :: r, cl, vs => ∃ c cl' v vs', cl = (x, c) :: cl' ∧ vs = v :: vs' ∧ (∃ oc, Fz g os ad h c oc ∧ oc.data = .cell (some v)) ∧ CellsAt g os ad h r cl' vs'
def DflAt (g : G) (os : List Addr) (ad : AD) (h : Heap) (dV : Value) (dvs : List Value) : Prop :=
  (dvs = [] ∧ dV = .none) ∨ (dvs ≠ [] ∧ ∃ dt, dV = .ref dt ∧ Fz g os ad h dt (kdv_tup dvs))
def CloAt (g : G) (os : List Addr) (ad : AD) (h : Heap) (k : Nat) (a : Addr) (cvs dvs : List Value) : Prop :=
  ∃ cl dV pm doc ctv cv,
    Fz g os ad h a { cls := .type "function", data := .func (kdv_fn (g.clo k).name (g.clo k).qual (g.clo k).params (g.clo k).body (g.clo k).scope cl dV doc pm cv ctv) } ∧
    CellsAt g os ad h (g.clo k).free cl cvs ∧ DflAt g os ad h dV dvs ∧ CodeFz g os ad h cv (g.clo k).qual
/-- a table of made code -/
def TabOk (g : G) (os : List Addr) (ad : AD) (h : Heap) (a : Addr) (o : Obj) : Prop :=
  ∃ ps, o = tabObj ps ∧ TriplesOk ps.toList ∧ ∀ pos cv, codeAmong pos ps.toList = some cv → CodeFz g os ad h cv (g.tq a)
def DctAt (g : G) (os : List Addr) (ad : AD) (h : Heap) (a : Addr) (f : Int → Option Value) : Prop :=
  ∃ o, Fz g os ad h a o ∧ ∀ h' : Heap, h'.get? a = some o → h'.MapOf (PySem.intKind g.prog g.w) a f

section
variable (g : G) (os : List Addr) (ad : AD)
mutual
def Rep (h : Heap) : SV → Value → Prop
  | .unb, _ => False
  | .none, v => v = .none
  | .bool b, v => v = .bool b
  | .int i, v => ∃ t, v = .int i t
  | .str s, v => ∃ t, v = .str s t
  | .bytes b, v => (∀ x ∈ b, x < 256) ∧ ∃ t, v = .bytes (bObj b) t
  | .tup l, v => ∃ a vs n, v = .ref a ∧ Fz g os ad h a (tupObj vs n) ∧ RepL h l vs
  | .lst l, v => ∃ a vs n, v = .ref a ∧ Fz g os ad h a (lstObj vs n) ∧ RepL h l vs
  | .dct ks l, v => ∃ a vs, v = .ref a ∧ DctAt g os ad h a (fun k => (ks.zip vs).lookup k) ∧ RepL h l vs
  | .rng x y z, v => ∃ a t u w, v = .ref a ∧ Fz g os ad h a (rngObj x y z t u w)
  | .ref i, v => ∃ p, ad[i]? = some p ∧ v = .ref p.1
  | .fn k, v => v = .ref (g.faddr k)
  | .clo k caps, v => ∃ a cvs dvs, v = .ref a ∧ CloAt g os ad h k a cvs dvs ∧ RepL h caps (cvs ++ dvs)
  | .bi b, v => v = .builtin b.id
  | .ty n, v => v = .type n.name
  | .cls k, v => v = .ref (g.caddr k)
def RepL (h : Heap) : List SV → List Value → Prop
  | [], vs => vs = []
  | x :: r, vs => ∃ v vr, vs = v :: vr ∧ Rep h x v ∧ RepL h r vr
end
end

/-- from one heap to the next: what is frozen stays -/
structure Stays (g : G) (os : List Addr) (ad : AD) (h : Heap) (os' : List Addr) (ad' : AD) (h' : Heap) : Prop where
  fz : ∀ a o, Fz g os ad h a o → Fz g os' ad' h' a o
  pre : ∀ (i : Nat) (p : Addr × Option Addr), ad[i]? = some p → ad'[i]? = some p

section
variable {g : G} {os os' : List Addr} {ad ad' : AD} {h h' : Heap}
theorem CodeFz.stays (S : Stays g os ad h os' ad' h') {cv qual} (x : CodeFz g os ad h cv qual) : CodeFz g os' ad' h' cv qual := by
  obtain ⟨c', oc, q, t, h1, h2, h3, h4⟩ := x
  exact ⟨c', oc, q, t, h1, S.fz _ _ h2, h3, h4⟩
theorem CellsAt.stays (S : Stays g os ad h os' ad' h') : ∀ {fr cl vs}, CellsAt g os ad h fr cl vs → CellsAt g os' ad' h' fr cl vs
  | [], _, _, x => x
  | _ :: _, _, _, x => by
    obtain ⟨c, cl', v, vs', h1, h2, ⟨oc, h3, h3'⟩, h4⟩ := x
    exact ⟨c, cl', v, vs', h1, h2, ⟨oc, S.fz _ _ h3, h3'⟩, CellsAt.stays S h4⟩
theorem DflAt.stays (S : Stays g os ad h os' ad' h') {dV dvs} (x : DflAt g os ad h dV dvs) : DflAt g os' ad' h' dV dvs :=
  x.imp id fun ⟨q, dt, e, f⟩ => ⟨q, dt, e, S.fz _ _ f⟩
theorem CloAt.stays (S : Stays g os ad h os' ad' h') {k a cvs dvs} (x : CloAt g os ad h k a cvs dvs) : CloAt g os' ad' h' k a cvs dvs := by
  obtain ⟨cl, dV, pm, doc, ctv, cv, h1, h2, h3, h4⟩ := x
  exact ⟨cl, dV, pm, doc, ctv, cv, S.fz _ _ h1, h2.stays S, h3.stays S, h4.stays S⟩
theorem TabOk.stays (S : Stays g os ad h os' ad' h') {a o} (x : TabOk g os ad h a o) : TabOk g os' ad' h' a o := by
  obtain ⟨ps, e, t, q⟩ := x
  exact ⟨ps, e, t, fun pos cv w => (q pos cv w).stays S⟩
mutual
theorem Rep.stays (S : Stays g os ad h os' ad' h') : ∀ (x : SV) (v : Value), Rep g os ad h x v → Rep g os' ad' h' x v
  | .unb, _, r => r
  | .none, _, r => r
  | .bool _, _, r => r
  | .int _, _, r => r
  | .str _, _, r => r
  | .bytes _, _, r => r
  | .tup l, _, r => by
    obtain ⟨a, vs, n, e, f, q⟩ := r
    exact ⟨a, vs, n, e, S.fz _ _ f, RepL.stays S l vs q⟩
  | .lst l, _, r => by
    obtain ⟨a, vs, n, e, f, q⟩ := r
    exact ⟨a, vs, n, e, S.fz _ _ f, RepL.stays S l vs q⟩
  | .dct ks l, _, r => by
    obtain ⟨a, vs, e, ⟨o, f, z⟩, q⟩ := r
    exact ⟨a, vs, e, ⟨o, S.fz _ _ f, z⟩, RepL.stays S l vs q⟩
  | .rng .., _, r => by
    obtain ⟨a, t, u, w, e, f⟩ := r
    exact ⟨a, t, u, w, e, S.fz _ _ f⟩
  | .ref i, _, r => by
    obtain ⟨p, e, f⟩ := r
    exact ⟨p, S.pre _ _ e, f⟩
  | .fn _, _, r => r
  | .clo k caps, _, r => by
    obtain ⟨a, cv, dvs, e, f, q⟩ := r
    exact ⟨a, cv, dvs, e, f.stays S, RepL.stays S caps _ q⟩
  | .bi _, _, r => r
  | .ty _, _, r => r
  | .cls _, _, r => r
theorem RepL.stays (S : Stays g os ad h os' ad' h') : ∀ (l : List SV) (vs : List Value), RepL g os ad h l vs → RepL g os' ad' h' l vs
  | [], _, r => r
  | x :: l, vs, r => by
    obtain ⟨v, vr, e, q, q'⟩ := r
    exact ⟨v, vr, e, Rep.stays S x v q, RepL.stays S l vr q'⟩
end
end

section
variable {g : G} {os : List Addr} {ad : AD} {h : Heap}
theorem RepL.length : ∀ {l : List SV} {vs : List Value}, RepL g os ad h l vs → vs.length = l.length
  | [], vs, r => by rw [show vs = [] from r]; rfl
  | x :: l, vs, r => by
    obtain ⟨v, vr, rfl, _, q⟩ := r
    simp [RepL.length q]
theorem RepL.get : ∀ {l : List SV} {vs : List Value}, RepL g os ad h l vs → ∀ (i : Nat) (x : SV), l[i]? = some x → ∃ v, vs[i]? = some v ∧ Rep g os ad h x v
  | [], vs, r, i, x, e => by simp at e
  | y :: l, vs, r, 0, x, e => by
    obtain ⟨v, vr, rfl, q, _⟩ := r
    simp at e; subst e; exact ⟨v, by simp, q⟩
  | y :: l, vs, r, i + 1, x, e => by
    obtain ⟨v, vr, rfl, _, q⟩ := r
    simp at e
    obtain ⟨u, e1, e2⟩ := RepL.get q i x e
    exact ⟨u, by simpa using e1, e2⟩
theorem RepL.getV : ∀ {l : List SV} {vs : List Value}, RepL g os ad h l vs → ∀ (i : Nat) (v : Value), vs[i]? = some v → ∃ x, l[i]? = some x ∧ Rep g os ad h x v
  | [], vs, r, i, v, e => by rw [show vs = [] from r] at e; simp at e
  | y :: l, vs, r, 0, v, e => by
    obtain ⟨v', vr, rfl, q, _⟩ := r
    simp at e; subst e; exact ⟨y, by simp, q⟩
  | y :: l, vs, r, i + 1, v, e => by
    obtain ⟨v', vr, rfl, _, q⟩ := r
    simp at e
    obtain ⟨u, e1, e2⟩ := RepL.getV q i v e
    exact ⟨u, by simpa using e1, e2⟩
theorem RepL.append : ∀ {l l' : List SV} {vs vs' : List Value}, RepL g os ad h l vs → RepL g os ad h l' vs' → RepL g os ad h (l ++ l') (vs ++ vs')
  | [], l', vs, vs', r, r' => by rw [show vs = [] from r]; exact r'
  | x :: l, l', vs, vs', r, r' => by
    obtain ⟨v, vr, rfl, q, q'⟩ := r
    exact ⟨v, vr ++ vs', rfl, q, RepL.append q' r'⟩
theorem RepL.one {x : SV} {v : Value} (r : Rep g os ad h x v) : RepL g os ad h [x] [v] := ⟨v, [], rfl, r, rfl⟩
theorem RepL.nil : RepL g os ad h [] [] := rfl
theorem RepL.cons {x : SV} {v : Value} {l vs} (r : Rep g os ad h x v) (q : RepL g os ad h l vs) : RepL g os ad h (x :: l) (v :: vs) := ⟨v, vs, rfl, r, q⟩
theorem RepL.take : ∀ {l : List SV} {vs : List Value} (n : Nat), RepL g os ad h l vs → RepL g os ad h (l.take n) (vs.take n)
  | [], vs, n, r => by rw [show vs = [] from r]; simp [RepL.nil]
  | x :: l, vs, 0, r => by simp [RepL.nil]
  | x :: l, vs, n + 1, r => by
    obtain ⟨v, vr, rfl, q, q'⟩ := r
    exact RepL.cons q (q'.take n)
theorem RepL.drop : ∀ {l : List SV} {vs : List Value} (n : Nat), RepL g os ad h l vs → RepL g os ad h (l.drop n) (vs.drop n)
  | [], vs, n, r => by rw [show vs = [] from r]; simp [RepL.nil]
  | x :: l, vs, 0, r => r
  | x :: l, vs, n + 1, r => by
    obtain ⟨v, vr, rfl, q, q'⟩ := r
    exact q'.drop n
theorem RepL.reverse : ∀ {l : List SV} {vs : List Value}, RepL g os ad h l vs → RepL g os ad h l.reverse vs.reverse
  | [], vs, r => by rw [show vs = [] from r]; exact RepL.nil
  | x :: l, vs, r => by
    obtain ⟨v, vr, rfl, q, q'⟩ := r
    simp only [List.reverse_cons]
    exact q'.reverse.append (.one q)
theorem RepL.set : ∀ {l : List SV} {vs : List Value} {x : SV} {v : Value} (n : Nat), RepL g os ad h l vs → Rep g os ad h x v → RepL g os ad h (l.set n x) (vs.set n v)
  | [], vs, x, v, n, r, _ => by rw [show vs = [] from r]; simp [RepL.nil]
  | y :: l, vs, x, v, 0, r, q0 => by
    obtain ⟨v', vr, rfl, q, q'⟩ := r
    exact RepL.cons q0 q'
  | y :: l, vs, x, v, n + 1, r, q0 => by
    obtain ⟨v', vr, rfl, q, q'⟩ := r
    exact RepL.cons q (q'.set n q0)
theorem RepL.replicate {x : SV} {v : Value} (r : Rep g os ad h x v) : ∀ n : Nat, RepL g os ad h (List.replicate n x) (List.replicate n v)
  | 0 => RepL.nil
  | n + 1 => RepL.cons r (RepL.replicate r n)

theorem adr_append (a b : AD) : adr (a ++ b) = adr a ++ adr b := by simp [adr]
theorem mem_mt {a : Addr} : a ∈ mt g os ad ↔ a ∈ os ∨ a ∈ adr ad ∨ a ∈ g.tabs := by simp [mt, or_assoc]
theorem adr_of_get {i : Nat} {p : Addr × Option Addr} (e : ad[i]? = some p) : p.1 ∈ adr ad := by
  simp only [adr, List.mem_flatMap]
  exact ⟨p, List.mem_of_getElem? e, by simp⟩
theorem adr_of_get2 {i : Nat} {p : Addr × Option Addr} {d : Addr} (e : ad[i]? = some p) (hd : p.2 = some d) : d ∈ adr ad := by
  simp only [adr, List.mem_flatMap]
  exact ⟨p, List.mem_of_getElem? e, by simp [hd]⟩
end

/-- keys of an instance's dict -/
def FldsAre (g : G) (os : List Addr) (ad : AD) (h : Heap) : List (Nat × SV) → List DictEntry → Prop
  | [], es => es = []
  | (n, x) :: r, es => ∃ v t er, es = ⟨PyData.keyHash g.w.params (g.fname n), .str (g.fname n) t, v⟩ :: er ∧ Rep g os ad h x v ∧ handedIn v = true ∧ FldsAre g os ad h r er
def ObjAt (g : G) (os : List Addr) (ad : AD) (h : Heap) : AO → Addr × Option Addr → Prop
  | .list l, p => p.2 = none ∧ ∃ vs n, h.get? p.1 = some (lstObj vs n) ∧ RepL g os ad h l vs
  | .inst k fs, p => ∃ d es n, p.2 = some d ∧ h.get? p.1 = some ⟨.ref (g.caddr k), some d, .plain, #[]⟩ ∧ h.get? d = some (dictOf es n) ∧ FldsAre g os ad h fs es
def ObjsAt (g : G) (os : List Addr) (ad : AD) (h : Heap) (objs : List AO) : Prop :=
  ad.length = objs.length ∧ ∀ (i : Nat) (o : AO) (p : Addr × Option Addr), objs[i]? = some o → ad[i]? = some p → ObjAt g os ad h o p

/-- what holds of the heap everywhere -/
structure InvH (g : G) (os : List Addr) (ad : AD) (objs : List AO) (s : Shared) : Prop where
  base : ∀ a o, g.h₀.get? a = some o → s.heap.get? a = some o
  fresh₀ : ∀ a ∈ mt g os ad, g.h₀.get? a = none
  live : ∀ a ∈ os, ∃ o, s.heap.get? a = some o
  nodup : (adr ad).Nodup
  ap1 : ∀ a ∈ os, a ∉ adr ad
  ap2 : ∀ a ∈ g.tabs, a ∉ os ∧ a ∉ adr ad
  tabs : ∀ a ∈ g.tabs, ∃ o, s.heap.get? a = some o ∧ TabOk g os ad s.heap a o
  objs : ObjsAt g os ad s.heap objs

/-- from state to state -/
structure Step (g : G) (own : List Addr) (ad : AD) (s : Shared) (ad' : AD) (s' : Shared) : Prop where
  ext : ∃ e, ad' = ad ++ e ∧ ∀ a ∈ adr e, s.heap.get? a = none
  keep : ∀ a o, a ∉ own → a ∉ adr ad → a ∉ g.tabs → s.heap.get? a = some o → s'.heap.get? a = some o
  rest : s'.os = s.os ∧ s'.gens = s.gens
end Vc
end
section
open PySem PySem.W PyProof.Rows
set_option maxRecDepth 10000
set_option autoImplicit false
namespace Vc

/-- methods of built-in things -/
inductive BM where | bitLength | toBytes | fromBytes | join | append | reverse | pop
  deriving DecidableEq, Inhabited

mutual
/-- expressions, their variables numbered -/
inductive X where
  | lit (v : SV)
  | var (i : Nat)
  | glob (k : Nat)
  | bin (op : Operator) (a b : X)
  | neg (a : X)
  | not (a : X)
  | bool (op : BoolOp) (xs : Xs)
  | cmp (a : X) (op : CmpOp) (b : X)
  | cmp2 (a : X) (o1 : CmpOp) (b : X) (o2 : CmpOp) (c : X)
  | ife (t a b : X)
  | call (f : X) (args : Xs)
  | bmeth (b : BM) (o : X) (args : Xs)
  | meth (m : Nat) (o : X) (args : Xs)
  | callA (f : Nat) (o : X) (args : Xs)
  | attr (o : X) (f : Nat)
  | sub (o i : X)
  | slice (o : X) (lo hi : X)
  | nop
  | list (mu : Bool) (xs : Xs)
  | tup (xs : Xs)
  | comp (mu : Bool) (nm : List (Str × Nat)) (elt : X) (tg : List Nat) (iter : X) (cond : X)
inductive Xs where
  | nil
  | cons (x : X) (r : Xs)
end

inductive Fl where
  | next | brk | cont | ret (v : SV)

mutual
inductive S where
  | set (i : Nat) (e : X)
  | setT (is : List Nat) (e : X)
  | aug (i : Nat) (op : Operator) (e : X)
  | setI (o i e : X)
  | augI (o i : X) (op : Operator) (e : X)
  | setA (o : X) (f : Nat) (e : X)
  | ex (e : X)
  | ite (t : X) (a b : Ss)
  | wh (t : X) (a : Ss)
  | fr (tg : List Nat) (it : X) (a : Ss)
  | ret (e : X)
  | setZ (i : Nat) (mu : Bool) (nm : List (Str × Nat)) (elt : X) (j1 j2 : Nat) (f : X) (args : Xs)
  | brk
  | cont
  | bad
inductive Ss where
  | nil
  | cons (x : S) (r : Ss)
end
def Ss.app : Ss → Ss → Ss
  | .nil, b => b
  | .cons x r, b => .cons x (r.app b)

/-- what the world outside the text at hand gives -/
structure C where
  gl : Nat → SV
  sp : Nat → List SV → List AO → (SV → List AO → Prop) → Prop
  mc : Nat → Nat
  mi : Nat → Nat

def lOf (objs : List AO) : SV → Option (List SV)
  | .lst l => some l
  | .ref i => match objs[i]? with
    | some (.list l) => some l
    | _ => none
  | _ => none

def rngItems (a b c : Int) : List SV := (List.range (Builtin.Range.rangeSize a b c).toNat).map fun (i : Nat) => .int (a + i * c)
def itemsOf (objs : List AO) : SV → Option (List SV)
  | .lst l => some l
  | .tup l => some l
  | .rng a b c => some (rngItems a b c)
  | .bytes b => some (b.map fun (n : Nat) => .int n)
  | .ref i => match objs[i]? with
    | some (.list l) => some l
    | _ => none
  | _ => none
/-- a list that is walked stands as it was -/
def guardOf (v : SV) (l : List SV) (objs : List AO) : Prop := match v with
  | .ref i => objs[i]? = some (.list l)
  | .rng a b c => Builtin.Range.small a b c = true
  | _ => True

def intsOf : List SV → Option (List Int)
  | [] => some []
  | .int i :: r => (intsOf r).map (i :: ·)
  | _ => none
def bytesOf : List SV → Option (List (List Nat))
  | [] => some []
  | .bytes b :: r => (bytesOf r).map (b :: ·)
  | _ => none

def lim : Nat := 1000000

/-- two operands -/
def binW (op : Operator) (a b : SV) (objs : List AO) (K : SV → Prop) : Prop :=
  match a, b with
  | .int a, .int b => (match op with
    | .Add => K (.int (a + b))
    | .Sub => K (.int (a - b))
    | .Mult => IntMulOk a b ∧ K (.int (a * b))
    | .FloorDiv => (b ≠ 0 ∧ b.natAbs < 1073741824) ∧ K (.int (a.fdiv b))
    | .Mod => b ≠ 0 ∧ K (.int (a.fmod b))
    | .LShift => (0 ≤ b ∧ (Builtin.Int.intBits a : Int) + b ≤ 2 ^ 27) ∧ K (.int (a * 2 ^ b.toNat))
    | .RShift => 0 ≤ b ∧ K (.int (a.fdiv (2 ^ b.toNat)))
    | .BitAnd => K (.int (Builtin.bitAnd a b))
    | .BitOr => K (.int (Builtin.bitOr a b))
    | .BitXor => K (.int (Builtin.bitXor a b))
    | _ => False)
  | .bytes a, .bytes b => (match op with
    | .Add => a.length + b.length ≤ lim ∧ K (.bytes (a ++ b))
    | _ => False)
  | a, .int n => (match op, lOf objs a with
    | .Mult, some l => (n < 2 ^ 62 ∧ -(2 ^ 62) < n ∧ l.length * n.toNat ≤ lim) ∧ K (.lst (List.replicate n.toNat l).flatten)
    | _, _ => False)
  | a, b => (match op, lOf objs a, lOf objs b with
    | .Add, some l, some l' => l.length + l'.length ≤ lim ∧ K (.lst (l ++ l'))
    | _, _, _ => False)

/-- in place -/
def ibinW (op : Operator) (a b : SV) (K : SV → Prop) : Prop :=
  match a, b with
  | .int a, .int b => (match op with
    | .Add => K (.int (a + b))
    | .Sub => K (.int (a - b))
    | .Mod => b ≠ 0 ∧ K (.int (a.fmod b))
    | .LShift => (0 ≤ b ∧ (Builtin.Int.intBits a : Int) + b ≤ 2 ^ 27) ∧ K (.int (a * 2 ^ b.toNat))
    | .RShift => 0 ≤ b ∧ K (.int (a.fdiv (2 ^ b.toNat)))
    | .BitAnd => K (.int (Builtin.bitAnd a b))
    | .BitOr => K (.int (Builtin.bitOr a b))
    | .BitXor => K (.int (Builtin.bitXor a b))
    | _ => False)
  | .bytes a, .bytes b => (match op with
    | .Add => a.length + b.length ≤ lim ∧ K (.bytes (a ++ b))
    | _ => False)
  | _, _ => False

def cmpW (op : CmpOp) (a b : SV) (objs : List AO) (K : SV → Prop) : Prop :=
  match a, b with
  | .int a, .int b => (match op with
    | .Eq => K (.bool (decide (a = b)))
    | .NotEq => K (.bool (decide (a ≠ b)))
    | .Lt => K (.bool (decide (a < b)))
    | .LtE => K (.bool (decide (a ≤ b)))
    | .Gt => K (.bool (decide (b < a)))
    | .GtE => K (.bool (decide (b ≤ a)))
    | _ => False)
  | .bool a, .bool b => (match op with
    | .Eq => K (.bool (a == b))
    | .NotEq => K (.bool (a != b))
    | _ => False)
  | .bytes a, .bytes b => (match op with
    | .Eq => K (.bool (decide (a = b)))
    | .NotEq => K (.bool (decide (a ≠ b)))
    | _ => False)
  | a, .none => (match op with
    | .IsNot => (match a with
      | .none => K (.bool false)
      | .bytes _ => K (.bool true)
      | _ => False)
    | _ => False)
  | .int a, b => (match op, lOf objs b with
    | .In, some l => (match intsOf l with
      | some ns => ns.length ≤ lim ∧ K (.bool (ns.contains a))
      | none => False)
    | .NotIn, some l => (match intsOf l with
      | some ns => ns.length ≤ lim ∧ K (.bool (!ns.contains a))
      | none => False)
    | _, _ => False)
  | _, _ => False

def truW (v : SV) (objs : List AO) (K : Bool → Prop) : Prop :=
  match v with
  | .bool b => K b
  | .int i => K (decide (i ≠ 0))
  | .none => K false
  | v => match lOf objs v with
    | some l => l.length ≤ lim ∧ K (!l.isEmpty)
    | none => False

def idx (n : Nat) (i : Int) : Option Nat := if 0 ≤ i then (if i < n then some i.toNat else none) else if 0 ≤ i + n then some (i + n).toNat else none

def subW (o i : SV) (objs : List AO) (K : SV → Prop) : Prop :=
  match i with
  | .int i => (match o with
    | .bytes b => (b.length ≤ lim ∧ 0 ≤ i ∧ i < b.length) ∧ K (.int (b.getD i.toNat 0))
    | .dct ks vs => (match (ks.zip vs).lookup i with
      | some x => K x
      | none => False)
    | .tup l => (-(2 ^ 62) < i ∧ i < 2 ^ 62) ∧ (match idx l.length i with
      | some j => (match l[j]? with
        | some x => K x
        | none => False)
      | none => False)
    | o => (match lOf objs o with
      | some l => (-(2 ^ 62) < i ∧ i < 2 ^ 62) ∧ (match idx l.length i with
        | some j => (match l[j]? with
          | some x => K x
          | none => False)
        | none => False)
      | none => False))
  | _ => False

/-- one end of a slice -/
def part : SV → Option (Option Int)
  | .none => some none
  | .int i => some (some i)
  | _ => none
def cut {α : Type} (l : List α) (lo hi : Option Int) : List α := (l.drop (lo.elim 0 (clipAt l.length))).take (hi.elim l.length (clipAt l.length) - lo.elim 0 (clipAt l.length))
def sliceW (o lo hi : SV) (objs : List AO) (K : SV → Prop) : Prop :=
  match o with
  | .bytes b => b.length ≤ lim ∧ (match part lo, part hi with
    | some p, some q => K (.bytes (cut b p q))
    | _, _ => False)
  | o => (match lOf objs o with
    | some l => l.length ≤ lim ∧ (match part lo, part hi with
      | some p, some q => K (.lst (cut l p q))
      | _, _ => False)
    | none => False)

def isSide (s : Str) : Option Bool := if s = Str.ofString "big" then some true else if s = Str.ofString "little" then some false else none
def ofBytesL : List Nat → Nat
  | [] => 0
  | b :: r => b + 256 * ofBytesL r
def toBytesL : Nat → Nat → List Nat
  | 0, _ => []
  | k + 1, v => v % 256 :: toBytesL k (v / 256)

/-- the kind of thing that has the method -/
def bmPre (b : BM) (o : SV) (objs : List AO) : Prop :=
  match b, o with
  | .bitLength, .int _ | .toBytes, .int _ | .fromBytes, .ty .int | .join, .bytes _ => True
  | .append, .ref i | .reverse, .ref i | .pop, .ref i => (match objs[i]? with
    | some (.list _) => True
    | _ => False)
  | _, _ => False
/-- a call of a built-in method -/
def bmW (b : BM) (o : SV) (args : List SV) (objs : List AO) (K : SV → List AO → Prop) : Prop :=
  match b, o, args with
  | .bitLength, .int v, [] => 0 ≤ v ∧ Builtin.Int.intBits v ≤ 2 ^ 27 ∧ K (.int (Builtin.Int.intBits v : Int)) objs
  | .toBytes, .int v, [.int k, .str s] => 0 ≤ k ∧ k ≤ 1000 ∧ 0 ≤ v ∧ v < 256 ^ k.toNat ∧ (match isSide s with
    | some big => K (.bytes (if big then (toBytesL k.toNat v.toNat).reverse else toBytesL k.toNat v.toNat)) objs
    | none => False)
  | .fromBytes, .ty .int, [.bytes x, .str s] => x.length ≤ 1000 ∧ (match isSide s with
    | some big => K (.int (ofBytesL (if big then x.reverse else x) : Nat)) objs
    | none => False)
  | .join, .bytes x, [l] => (match (lOf objs l).bind bytesOf with
    | some ls => (x.length + 1) * ls.length + ls.flatten.length ≤ lim ∧ K (.bytes (List.intercalate x ls)) objs
    | none => False)
  | .append, .ref i, [x] => (match objs[i]? with
    | some (.list l) => l.length ≤ lim ∧ K .none (objs.set i (.list (l ++ [x])))
    | _ => False)
  | .reverse, .ref i, [] => (match objs[i]? with
    | some (.list l) => l.length ≤ lim ∧ K .none (objs.set i (.list l.reverse))
    | _ => False)
  | .pop, .ref i, [] => (match objs[i]? with
    | some (.list l) => l.length ≤ lim ∧ (match l.getLast? with
      | some x => K x (objs.set i (.list l.dropLast))
      | none => False)
    | _ => False)
  | _, _, _ => False

def callW (c : C) (f : SV) (args : List SV) (objs : List AO) (K : SV → List AO → Prop) : Prop :=
  match f with
  | .fn k => k < 1000 ∧ c.sp k args objs K
  | .clo k caps => k < 10 ∧ c.sp (2000 + 10 * caps.length + k) (caps ++ args) objs K
  | .cls k => k < 10 ∧ c.sp (1000 + k) args objs K
  | .bi .len => (match args with
    | [.bytes b] => b.length ≤ lim ∧ K (.int b.length) objs
    | [.tup l] => l.length ≤ lim ∧ K (.int l.length) objs
    | [v] => (match lOf objs v with
      | some l => l.length ≤ lim ∧ K (.int l.length) objs
      | none => False)
    | _ => False)
  | .bi .isinstance => (match args with
    | [.int _, .ty .int] => K (.bool true) objs
    | [.bytes _, .ty .bytes] => K (.bool true) objs
    | [.bytes _, .ty .str] => K (.bool false) objs
    | _ => False)
  | .ty .range => (match args with
    | [.int b] => K (.rng 0 b 1) objs
    | [.int a, .int b] => K (.rng a b 1) objs
    | [.int a, .int b, .int s] => (s ≠ 0 ∧ s.natAbs < 1073741824) ∧ K (.rng a b s) objs
    | _ => False)
  | .ty .bytes => (match args with
    | [v] => (match (lOf objs v).bind intsOf with
      | some ns => (∀ n ∈ ns, 0 ≤ n ∧ n < 256) ∧ ns.length ≤ lim ∧ K (.bytes (ns.map Int.toNat)) objs
      | none => False)
    | _ => False)
  | .ty .list => (match args with
    | [.rng a b s] => Builtin.Range.small a b s = true ∧ Builtin.Range.rangeSize a b s ≤ lim ∧ K (.lst (rngItems a b s)) objs
    | _ => False)
  | _ => False

def setvs (vars : List SV) : List Nat → List SV → List SV
  | i :: is, x :: xs => setvs (vars.set i x) is xs
  | _, _ => vars
/-- an assignment to one name, or to several -/
def asgW (tg : List Nat) (v : SV) (vars : List SV) (K : List SV → Prop) : Prop :=
  match tg with
  | [i] => K (vars.set i v)
  | is => match v with
    | .tup l => l.length = is.length ∧ K (setvs vars is l)
    | _ => False

/-- a made list: a thing that changes, or one that nobody changes -/
def mkW (mu : Bool) (l : List SV) (objs : List AO) (K : SV → List AO → Prop) : Prop :=
  l.length ≤ lim ∧ if mu then K (.ref objs.length) (objs ++ [.list l]) else K (.lst l) objs

def clrs (vars : List SV) (tg : List Nat) : List SV := tg.foldl (fun v i => v.set i .unb) vars
def compW (E : St → (SV → St → Prop) → Prop) (T : St → (Bool → St → Prop) → Prop) (tg : List Nat) (gd : List AO → Prop) : List SV → List SV → St → (List SV → St → Prop) → Prop
  | [], acc, σ, K => gd σ.objs ∧ K acc σ
  | x :: r, acc, σ, K => gd σ.objs ∧ asgW tg x σ.vars fun vars => T ⟨vars, σ.objs⟩ fun b σ' => if b then E σ' fun y σ'' => compW E T tg gd r (acc ++ [y]) σ'' K else compW E T tg gd r acc σ' K

/-- numbered -/
def enumL : Nat → List SV → List SV
  | _, [] => []
  | k, x :: r => .tup [.int (k : Nat), x] :: enumL (k + 1) r
/-- pairs -/
def zW (f : SV) (args : List SV) (K : List SV → Prop) : Prop :=
  match f, args with
  | .ty .enumerate, [.lst l] => K (enumL 0 l)
  | .ty .zip, [.lst a, .lst b] => K (List.zipWith (fun x y => .tup [x, y]) a b)
  | _, _ => False

/-- no test, or one -/
def condF (x : X) (W : St → (Bool → St → Prop) → Prop) : St → (Bool → St → Prop) → Prop := match x with
  | .nop => fun σ K => K true σ
  | _ => W
/-- one of several tests: done, or on -/
def boolStep : BoolOp → Bool → Prop → Prop → Prop
  | .And, false, p, _ => p
  | .Or, true, p, _ => p
  | _, _, _, q => q
mutual
def wpE (c : C) : X → St → (SV → St → Prop) → Prop
  | .lit v, σ, K => K v σ
  | .var i, σ, K => match σ.vars[i]? with
    | some .unb => False
    | some v => K v σ
    | none => False
  | .glob k, σ, K => K (c.gl k) σ
  | .bin op a b, σ, K => wpE c a σ fun va σ1 => wpE c b σ1 fun vb σ2 => binW op va vb σ2.objs fun r => K r σ2
  | .neg a, σ, K => wpE c a σ fun va σ1 => match va with
    | .int i => K (.int (-i)) σ1
    | _ => False
  | .not a, σ, K => wpE c a σ fun va σ1 => truW va σ1.objs fun b => K (.bool (!b)) σ1
  | .bool op xs, σ, K => wpB c op xs σ K
  | .cmp a op b, σ, K => wpE c a σ fun va σ1 => wpE c b σ1 fun vb σ2 => cmpW op va vb σ2.objs fun r => K r σ2
  | .cmp2 a o1 b o2 d, σ, K => wpE c a σ fun va σ1 => wpE c b σ1 fun vb σ2 => cmpW o1 va vb σ2.objs fun r => match r with
    | .bool true => wpE c d σ2 fun vd σ3 => cmpW o2 vb vd σ3.objs fun r' => K r' σ3
    | .bool false => K (.bool false) σ2
    | _ => False
  | .ife t a b, σ, K => wpT c t (wpE c t) σ fun z σ1 => if z then wpE c a σ1 K else wpE c b σ1 K
  | .call f args, σ, K => wpE c f σ fun vf σ1 => wpEs c args σ1 fun vs σ2 => callW c vf vs σ2.objs fun r objs => K r ⟨σ2.vars, objs⟩
  | .bmeth b o args, σ, K => wpE c o σ fun vo σ1 => bmPre b vo σ1.objs ∧ wpEs c args σ1 fun vs σ2 => bmW b vo vs σ2.objs fun r objs => K r ⟨σ2.vars, objs⟩
  | .meth m o args, σ, K => wpE c o σ fun vo σ1 => match vo with
    | .ref i => (match σ1.objs[i]? with
      | some (.inst k _) => k = c.mc m ∧ wpEs c args σ1 fun vs σ2 => c.sp (c.mi m) (.ref i :: vs) σ2.objs fun r objs => K r ⟨σ2.vars, objs⟩
      | _ => False)
    | _ => False
  | .callA f o args, σ, K => wpE c o σ fun vo σ1 => match vo with
    | .ref i => (match σ1.objs[i]? with
      | some (.inst _ fs) => (match fs.lookup f with
        | some x => wpEs c args σ1 fun vs σ2 => callW c x vs σ2.objs fun r objs => K r ⟨σ2.vars, objs⟩
        | none => False)
      | _ => False)
    | _ => False
  | .attr o f, σ, K => wpE c o σ fun vo σ1 => match vo with
    | .ref i => (match σ1.objs[i]? with
      | some (.inst _ fs) => (match fs.lookup f with
        | some x => K x σ1
        | none => False)
      | _ => False)
    | _ => False
  | .sub o i, σ, K => wpE c o σ fun vo σ1 => wpE c i σ1 fun vi σ2 => subW vo vi σ2.objs fun r => K r σ2
  | .slice o lo hi, σ, K => wpE c o σ fun vo σ1 => wpE c lo σ1 fun vl σ2 => wpE c hi σ2 fun vh σ3 => sliceW vo vl vh σ3.objs fun r => K r σ3
  | .nop, σ, K => K .none σ
  | .list mu xs, σ, K => wpEs c xs σ fun vs σ1 => mkW mu vs σ1.objs fun r objs => K r ⟨σ1.vars, objs⟩
  | .tup xs, σ, K => wpEs c xs σ fun vs σ1 => K (.tup vs) σ1
  | .comp mu _ elt tg iter cond, σ, K => wpE c iter σ fun vi σ1 => match itemsOf σ1.objs vi with
    | some l => l.length ≤ lim ∧ compW (wpE c elt) (condF cond (wpT c cond (wpE c cond))) tg (guardOf vi l) l [] ⟨clrs σ1.vars tg, σ1.objs⟩ fun acc σ2 => mkW mu acc σ2.objs fun r objs => K r ⟨σ.vars, objs⟩
    | none => False
def wpEs (c : C) : Xs → St → (List SV → St → Prop) → Prop
  | .nil, σ, K => K [] σ
  | .cons x r, σ, K => wpE c x σ fun v σ1 => wpEs c r σ1 fun vs σ2 => K (v :: vs) σ2
def wpB (c : C) (op : BoolOp) : Xs → St → (SV → St → Prop) → Prop
  | .nil, _, _ => False
  | .cons x .nil, σ, K => wpE c x σ K
  | .cons x r, σ, K => wpE c x σ fun v σ1 => truW v σ1.objs fun b => boolStep op b (K v σ1) (wpB c op r σ1 K)
/-- in a test -/
def wpT (c : C) : X → (St → (SV → St → Prop) → Prop) → St → (Bool → St → Prop) → Prop
  | .not a, _, σ, K => wpT c a (wpE c a) σ fun b σ1 => K (!b) σ1
  | .bool op xs, _, σ, K => wpTs c op xs σ K
  | .ife t a b, _, σ, K => wpT c t (wpE c t) σ fun z σ1 => if z then wpT c a (wpE c a) σ1 K else wpT c b (wpE c b) σ1 K
  | .cmp a op b, _, σ, K => wpE c a σ fun va σ1 => wpE c b σ1 fun vb σ2 => cmpW op va vb σ2.objs fun r => match r with
    | .bool z => K z σ2
    | _ => False
  | .cmp2 a o1 b o2 d, _, σ, K => wpE c a σ fun va σ1 => wpE c b σ1 fun vb σ2 => cmpW o1 va vb σ2.objs fun r => match r with
    | .bool true => wpE c d σ2 fun vd σ3 => cmpW o2 vb vd σ3.objs fun r' => (match r' with
      | .bool z => K z σ3
      | _ => False)
    | .bool false => K false σ2
    | _ => False
  | _, W, σ, K => W σ fun v σ1 => truW v σ1.objs fun b => K b σ1
def wpTs (c : C) (op : BoolOp) : Xs → St → (Bool → St → Prop) → Prop
  | .nil, σ, K => K (op == .And) σ
  | .cons x r, σ, K => wpT c x (wpE c x) σ fun b σ1 => boolStep op b (K b σ1) (wpTs c op r σ1 K)
end

def forW (tg : List Nat) (B : St → (Fl → St → Prop) → Prop) (gd : List AO → Prop) : List SV → St → (Fl → St → Prop) → Prop
  | [], σ, K => gd σ.objs ∧ K .next σ
  | x :: r, σ, K => gd σ.objs ∧ asgW tg x σ.vars fun vars => B ⟨vars, σ.objs⟩ fun fl σ' => match fl with
    | .next | .cont => forW tg B gd r σ' K
    | .brk => K .next σ'
    | .ret v => K (.ret v) σ'
def whW (T : St → (Bool → St → Prop) → Prop) (B : St → (Fl → St → Prop) → Prop) : Nat → St → (Fl → St → Prop) → Prop
  | 0, _, _ => False
  | n + 1, σ, K => T σ fun b σ' => if b then B σ' fun fl σ'' => (match fl with
    | .next | .cont => whW T B n σ'' K
    | .brk => K .next σ''
    | .ret v => K (.ret v) σ'') else K .next σ'

/-- a value that is dropped: no thing on the heap -/
def dropOk : SV → Prop
  | .none | .int _ | .bool _ => True
  | _ => False
def setF (f : Nat) (v : SV) : List (Nat × SV) → List (Nat × SV)
  | [] => [(f, v)]
  | (f', v') :: r => if f' = f then (f, v) :: r else (f', v') :: setF f v r
mutual
def wpS (c : C) : S → St → (Fl → St → Prop) → Prop
  | .set i e, σ, K => wpE c e σ fun v σ1 => K .next ⟨σ1.vars.set i v, σ1.objs⟩
  | .setT is e, σ, K => wpE c e σ fun v σ1 => match v with
    | .tup l => l.length = is.length ∧ K .next ⟨setvs σ1.vars is l, σ1.objs⟩
    | _ => False
  | .aug i op e, σ, K => match σ.vars[i]? with
    | some .unb => False
    | some o => wpE c e σ fun v σ1 => ibinW op o v fun r => K .next ⟨σ1.vars.set i r, σ1.objs⟩
    | none => False
  | .setI o i e, σ, K => wpE c e σ fun v σ1 => wpE c o σ1 fun vo σ2 => wpE c i σ2 fun vi σ3 => match vo, vi with
    | .ref a, .int j => (match σ3.objs[a]? with
      | some (.list l) => (0 ≤ j ∧ j < 2 ^ 62) ∧ (match idx l.length j with
        | some q => K .next ⟨σ3.vars, σ3.objs.set a (.list (l.set q v))⟩
        | none => False)
      | _ => False)
    | _, _ => False
  | .augI o i op e, σ, K => wpE c o σ fun vo σ1 => wpE c i σ1 fun vi σ2 => subW vo vi σ2.objs fun old => wpE c e σ2 fun v σ3 => ibinW op old v fun new => match vo, vi with
    | .ref a, .int j => (match σ3.objs[a]? with
      | some (.list l) => (0 ≤ j ∧ j < 2 ^ 62) ∧ (match idx l.length j with
        | some q => K .next ⟨σ3.vars, σ3.objs.set a (.list (l.set q new))⟩
        | none => False)
      | _ => False)
    | _, _ => False
  | .setA o f e, σ, K => wpE c e σ fun v σ1 => wpE c o σ1 fun vo σ2 => match vo with
    | .ref i => (match σ2.objs[i]? with
      | some (.inst k fs) => fs.length ≤ 100 ∧ K .next ⟨σ2.vars, σ2.objs.set i (.inst k (setF f v fs))⟩
      | _ => False)
    | _ => False
  | .ex e, σ, K => wpE c e σ fun v σ1 => dropOk v ∧ K .next σ1
  | .ite t a b, σ, K => wpT c t (wpE c t) σ fun z σ1 => if z then wpSs c a σ1 K else wpSs c b σ1 K
  | .wh t a, σ, K => ∃ n, whW (wpT c t (wpE c t)) (wpSs c a) n σ K
  | .fr tg it a, σ, K => wpE c it σ fun vi σ1 => match itemsOf σ1.objs vi with
    | some l => l.length ≤ lim ∧ forW tg (wpSs c a) (guardOf vi l) l σ1 K
    | none => False
  | .ret e, σ, K => wpE c e σ fun v σ1 => K (.ret v) σ1
  | .setZ i mu _ elt j1 j2 f args, σ, K => wpE c f σ fun vf σ0 => wpEs c args σ0 fun vs σ1 => zW vf vs fun l =>
    l.length ≤ lim ∧ compW (wpE c elt) (fun σ K => K true σ) [j1, j2] (fun _ => True) l [] ⟨clrs σ1.vars [j1, j2], σ1.objs⟩ fun acc σ2 => mkW mu acc σ2.objs fun r objs => K .next ⟨σ.vars.set i r, objs⟩
  | .bad, _, _ => False
  | .brk, σ, K => K .brk σ
  | .cont, σ, K => K .cont σ
def wpSs (c : C) : Ss → St → (Fl → St → Prop) → Prop
  | .nil, σ, K => K .next σ
  | .cons x r, σ, K => wpS c x σ fun fl σ1 => match fl with
    | .next => wpSs c r σ1 K
    | fl => K fl σ1
end

theorem condF_ne {x : X} {W : St → (Bool → St → Prop) → Prop} (h : x ≠ .nop) : condF x W = W := by
  cases x <;> first | rfl | exact (h rfl).elim
end Vc
end
section
open PySem PySem.W PyProof.Rows
set_option maxRecDepth 10000
set_option autoImplicit false
namespace Vc

def RepO (g : G) (os : List Addr) (ad : AD) (h : Heap) (o : Option Value) (x : SV) : Prop := x = .unb ∨ ∃ v, o = some v ∧ Rep g os ad h x v

/-- a cell that a name of the frame's lies in -/
def NmCell (env : Env) (nm : List (Str × Nat)) (a : Addr) : Prop := ∃ x i, nm.lookup x = some i ∧ env.kindOf x ≠ some .local ∧ env.cells.lookup x = some a
/-- a frame: where its names lie -/
structure FrOk (g : G) (os own : List Addr) (env : Env) (nm : List (Str × Nat)) (wr : Str → Bool) (ad : AD) (vars : List SV) (h : Heap) : Prop where
  kind : env.scope.kind = .function
  glob : env.globals = mainGlobals
  blt : env.builtins = builtinsNs
  inOs : ∀ a ∈ own, a ∈ os
  loc : env.locals ∈ own
  ns : ∃ m, h.Ns env.locals m ∧ ∀ x i, nm.lookup x = some i → env.kindOf x = some .local → ∀ sv, vars[i]? = some sv → RepO g os ad h (m x) sv
  cells : ∀ x i, nm.lookup x = some i → env.kindOf x ≠ some .local → (env.kindOf x = some .cell ∨ env.kindOf x = some .free) ∧
    ∃ c ov, env.cells.lookup x = some c ∧ h.IsCell c ov ∧ (∀ sv, vars[i]? = some sv → RepO g os ad h ov sv) ∧ c ≠ env.locals ∧ c ∉ adr ad ∧ c ∉ g.tabs
  inj : ∀ x y i, nm.lookup x = some i → nm.lookup y = some i → x = y
  wr : ∀ x, wr x = true → env.kindOf x = some .local ∨ (env.kindOf x = some .cell ∧ ∀ c, env.cells.lookup x = some c → c ∈ own ∧ ∀ y, env.cells.lookup y = some c → y = x)

structure Inv (g : G) (os own : List Addr) (env : Env) (nm : List (Str × Nat)) (wr : Str → Bool) (ad : AD) (σ : St) (s : Shared) : Prop where
  H : InvH g os ad σ.objs s
  F : FrOk g os own env nm wr ad σ.vars s.heap

section
variable {g : G} {os own : List Addr} {env : Env} {nm : List (Str × Nat)} {wr : Str → Bool} {ad ad' ad'' : AD} {objs : List AO} {vars : List SV} {s s' s'' : Shared} {h h' : Heap}

theorem ObjsAt.get (x : ObjsAt g os ad h objs) {i : Nat} {o : AO} (e : objs[i]? = some o) : ∃ p, ad[i]? = some p ∧ ObjAt g os ad h o p := by
  have hi : i < objs.length := (List.getElem?_eq_some_iff.mp e).1
  have hi' : i < ad.length := by rw [x.1]; exact hi
  exact ⟨ad[i], List.getElem?_eq_getElem hi', x.2 i o _ e (List.getElem?_eq_getElem hi')⟩

theorem ObjsAt.live (x : ObjsAt g os ad h objs) : ∀ a ∈ adr ad, ∃ o, h.get? a = some o := by
  intro a ha
  simp only [adr, List.mem_flatMap] at ha
  obtain ⟨p, hp, ha⟩ := ha
  obtain ⟨i, hi, e⟩ := List.getElem_of_mem hp
  have e1 : ad[i]? = some p := by rw [← e]; exact List.getElem?_eq_getElem hi
  have hi' : i < objs.length := by rw [← x.1]; exact hi
  have y := x.2 i objs[i] p (List.getElem?_eq_getElem hi') e1
  cases ho : objs[i] with
  | list l =>
    rw [ho] at y
    obtain ⟨h0, vs, n, h1, _⟩ := y
    rw [h0] at ha
    simp at ha
    subst ha
    exact ⟨_, h1⟩
  | inst k fs =>
    rw [ho] at y
    obtain ⟨d, es, n, h0, h1, h2, _⟩ := y
    rw [h0] at ha
    simp at ha
    rcases ha with rfl | rfl
    · exact ⟨_, h1⟩
    · exact ⟨_, h2⟩

theorem InvH.liveAll (I : InvH g os ad objs s) : ∀ a ∈ mt g os ad, ∃ o, s.heap.get? a = some o := by
  intro a ha
  rcases mem_mt.mp ha with h | h | h
  · exact I.live a h
  · exact I.objs.live a h
  · obtain ⟨o, e, _⟩ := I.tabs a h; exact ⟨o, e⟩

theorem Step.refl : Step g own ad s ad s := ⟨⟨[], by simp, by simp [adr]⟩, fun _ _ _ _ _ e => e, rfl, rfl⟩
theorem Step.of_eq {t : Nat} (_h : True) : Step g own ad s ad { s with toks := t } := ⟨⟨[], by simp, by simp [adr]⟩, fun _ _ _ _ _ e => e, rfl, rfl⟩
theorem Step.weaken {own' : List Addr} (S : Step g own ad s ad' s') (hs : ∀ a ∈ own, a ∈ own' ∨ s.heap.get? a = none) : Step g own' ad s ad' s' :=
  ⟨S.ext, fun a o h1 h2 h3 e => S.keep a o (fun hm => (hs a hm).elim h1 fun q => by rw [q] at e; cases e) h2 h3 e, S.rest⟩

theorem Step.trans {objs' : List AO} (I : InvH g os ad objs s) (ho : ∀ a ∈ own, a ∈ os) (I' : InvH g os ad' objs' s') (S : Step g own ad s ad' s') (S' : Step g own ad' s' ad'' s'') : Step g own ad s ad'' s'' := by
  obtain ⟨e, rfl, he⟩ := S.ext
  obtain ⟨e', rfl, he'⟩ := S'.ext
  refine ⟨⟨e ++ e', by simp, fun a ha => ?_⟩, fun a o h1 h2 h3 q => ?_, S'.rest.1.trans S.rest.1, S'.rest.2.trans S.rest.2⟩
  · rw [adr_append] at ha
    rcases List.mem_append.mp ha with ha | ha
    · exact he a ha
    · cases q : s.heap.get? a with
      | none => rfl
      | some o =>
        exfalso
        have n := he' a ha
        by_cases hx : a ∈ mt g os (ad ++ e)
        · obtain ⟨o', e1⟩ := I'.liveAll a hx
          rw [n] at e1; cases e1
        · have hy : a ∉ os ∧ a ∉ adr ad ∧ a ∉ g.tabs := by
            rw [mem_mt, adr_append] at hx
            simp only [List.mem_append, not_or] at hx
            exact ⟨hx.1, hx.2.1.1, hx.2.2⟩
          rw [S.keep a o (fun hm => hy.1 (ho a hm)) hy.2.1 hy.2.2 q] at n
          cases n
  · refine S'.keep a o h1 ?_ h3 (S.keep a o h1 h2 h3 q)
    rw [adr_append, List.mem_append]
    rintro (hm | hm)
    · exact h2 hm
    · rw [he a hm] at q; cases q

/-- what is frozen stays, over a step -/
theorem Step.stays (S : Step g own ad s ad' s') (ho : ∀ a ∈ own, a ∈ os) : Stays g os ad s.heap os ad' s'.heap := by
  obtain ⟨e, rfl, he⟩ := S.ext
  refine ⟨fun a o ⟨q, n⟩ => ⟨?_, fun hm => ?_⟩, fun i p hp => ?_⟩
  · rw [mem_mt] at n
    simp only [not_or] at n
    exact S.keep a o (fun hm => n.1 (ho a hm)) n.2.1 n.2.2 q
  · rw [mem_mt] at n hm
    simp only [not_or] at n
    rw [adr_append, List.mem_append] at hm
    rcases hm with hm | (hm | hm) | hm
    · exact n.1 hm
    · exact n.2.1 hm
    · rw [he a hm] at q; cases q
    · exact n.2.2 hm
  · rw [List.getElem?_append_left (List.getElem?_eq_some_iff.mp hp).1]; exact hp

theorem RepO.stays {os' : List Addr} {o : Option Value} {x : SV} (S : Stays g os ad h os' ad' h') (r : RepO g os ad h o x) : RepO g os' ad' h' o x := by
  rcases r with r | ⟨v, e, r⟩
  · exact .inl r
  · exact .inr ⟨v, e, r.stays S⟩

theorem FrOk.live (F : FrOk g os own env nm wr ad vars h) {a : Addr} (x : NmCell env nm a) : ∃ o, h.get? a = some o := by
  obtain ⟨x, i, h1, h2, h3⟩ := x
  obtain ⟨_, c, ov, g3, ⟨o, g4, _⟩, _⟩ := F.cells x i h1 h2
  rw [h3] at g3; cases g3
  exact ⟨o, g4⟩
/-- the frame stands over a step that leaves it alone -/
theorem FrOk.step {own₂ : List Addr} (F : FrOk g os own env nm wr ad vars s.heap) (I : InvH g os ad objs s) (S : Step g own₂ ad s ad' s') (ho₂ : ∀ a ∈ own₂, a ∈ os ∨ s.heap.get? a = none)
    (hown : env.locals ∉ own₂ ∧ ∀ c, NmCell env nm c → c ∉ own₂) : FrOk g os own env nm wr ad' vars s'.heap := by
  have S2 : Step g (own₂.filter (· ∈ os)) ad s ad' s' := S.weaken fun a ha => (ho₂ a ha).imp (fun q => List.mem_filter.mpr ⟨ha, by simpa using q⟩) id
  have st := S2.stays (os := os) (fun a ha => by simpa using (List.mem_filter.mp ha).2)
  have hl := F.inOs _ F.loc
  obtain ⟨e, rfl, he⟩ := S.ext
  refine ⟨F.kind, F.glob, F.blt, F.inOs, F.loc, ?_, ?_, F.inj, F.wr⟩
  · obtain ⟨m, hm, hv⟩ := F.ns
    refine ⟨m, ?_, fun x i h1 h2 sv h3 => (hv x i h1 h2 sv h3).stays st⟩
    obtain ⟨o, es, ep, q, r⟩ := hm
    exact ⟨o, es, ep, S.keep _ _ hown.1 (I.ap1 _ hl) (fun ht => (I.ap2 _ ht).1 hl) q, r⟩
  · intro x i h1 h2
    obtain ⟨hk, c, ov, h3, ⟨o, h4, h4'⟩, h5, h6, h7, h8⟩ := F.cells x i h1 h2
    refine ⟨hk, c, ov, h3, ⟨o, S.keep _ _ (hown.2 c ⟨x, i, h1, h2, h3⟩) h7 h8 h4, h4'⟩, fun sv q => (h5 sv q).stays st, h6, ?_, h8⟩
    rw [adr_append, List.mem_append]
    rintro (hm | hm)
    · exact h7 hm
    · rw [he c hm] at h4; cases h4
end
end Vc
end
section
open PySem PySem.W PyProof.Rows
set_option maxRecDepth 10000
set_option autoImplicit false
set_option linter.unusedVariables false
namespace Vc

/-- all that was, stands -/
structure Mono (s s' : Shared) : Prop where
  keep : ∀ a o, s.heap.get? a = some o → s'.heap.get? a = some o
  rest : s'.os = s.os ∧ s'.gens = s.gens
theorem Mono.refl {s : Shared} : Mono s s := ⟨fun _ _ e => e, rfl, rfl⟩
theorem Mono.tok {s : Shared} {t : Nat} : Mono s { s with toks := t } := ⟨fun _ _ e => e, rfl, rfl⟩
theorem Mono.trans {s s' s'' : Shared} (x : Mono s s') (y : Mono s' s'') : Mono s s'' := ⟨fun a o e => y.keep a o (x.keep a o e), y.rest.1.trans x.rest.1, y.rest.2.trans x.rest.2⟩
theorem Mono.push {s : Shared} (o : Obj) (t : Nat) : Mono s { s with heap := s.heap.push o, toks := t } := ⟨fun _ _ e => Heap.get?_push_of_some _ e, rfl, rfl⟩
theorem Mono.push' {s : Shared} (o : Obj) : Mono s { s with heap := s.heap.push o } := ⟨fun _ _ e => Heap.get?_push_of_some _ e, rfl, rfl⟩

section
variable {g : G} {os own : List Addr} {env : Env} {nm : List (Str × Nat)} {wr : Str → Bool} {ad ad' ad'' : AD} {objs : List AO} {vars : List SV} {s s' s'' : Shared} {h h' : Heap} {σ : St}
theorem Mono.step (m : Mono s s') : Step g own ad s ad s' := ⟨⟨[], by simp, by simp [adr]⟩, fun a o _ _ _ e => m.keep a o e, m.rest⟩
theorem Mono.stays (m : Mono s s') : Stays g os ad s.heap os ad s'.heap := ⟨fun a o ⟨q, n⟩ => ⟨m.keep a o q, n⟩, fun _ _ e => e⟩
theorem FldsAre.stays {os' : List Addr} (S : Stays g os ad h os' ad' h') : ∀ {fs : List (Nat × SV)} {es : List DictEntry}, FldsAre g os ad h fs es → FldsAre g os' ad' h' fs es
  | [], _, r => r
  | (n, x) :: fs, es, r => by
    obtain ⟨v, t, er, e, q, hh, r⟩ := r
    exact ⟨v, t, er, e, q.stays S, hh, r.stays S⟩
theorem ObjAt.stays {os' : List Addr} (S : Stays g os ad h os' ad' h') {o : AO} {p : Addr × Option Addr} (k : ∀ a ∈ p.1 :: p.2.toList, ∀ o, h.get? a = some o → h'.get? a = some o) (x : ObjAt g os ad h o p) : ObjAt g os' ad' h' o p := by
  cases o with
  | list l =>
    obtain ⟨h0, vs, n, h1, h2⟩ := x
    exact ⟨h0, vs, n, k _ (by simp) _ h1, h2.stays S⟩
  | inst c fs =>
    obtain ⟨d, es, n, h0, h1, h2, h3⟩ := x
    exact ⟨d, es, n, h0, k _ (by simp) _ h1, k _ (by simp [h0]) _ h2, h3.stays S⟩
theorem InvH.mono (I : InvH g os ad objs s) (m : Mono s s') : InvH g os ad objs s' where
  base := fun a o e => m.keep a o (I.base a o e)
  fresh₀ := I.fresh₀
  live := fun a ha => let ⟨o, e⟩ := I.live a ha; ⟨o, m.keep a o e⟩
  nodup := I.nodup
  ap1 := I.ap1
  ap2 := I.ap2
  tabs := fun a ha => let ⟨o, e, t⟩ := I.tabs a ha; ⟨o, m.keep a o e, t.stays m.stays⟩
  objs := ⟨I.objs.1, fun i o p e1 e2 => (I.objs.2 i o p e1 e2).stays m.stays fun a _ o e => m.keep a o e⟩
theorem FrOk.mono (F : FrOk g os own env nm wr ad vars s.heap) (I : InvH g os ad objs s) (m : Mono s s') : FrOk g os own env nm wr ad vars s'.heap :=
  F.step (own₂ := []) I m.step (by simp) ⟨by simp, by simp⟩
theorem Inv.mono (I : Inv g os own env nm wr ad σ s) (m : Mono s s') : Inv g os own env nm wr ad σ s' := ⟨I.H.mono m, I.F.mono I.H m⟩
theorem InvH.stays₀ (I : InvH g os ad objs s) (ht : ∀ a ∈ g.tabs, g.h₀.get? a = none) : Stays g [] [] g.h₀ os ad s.heap :=
  ⟨fun a o ⟨q, n⟩ => ⟨I.base a o q, fun hm => by rw [I.fresh₀ a hm] at q; cases q⟩, fun _ _ e => by simp at e⟩

theorem fz_push {o : Obj} (I : InvH g os ad objs s) (hf : o.isFreed = false) : Fz g os ad (s.heap.push o) s.heap.objs.size o :=
  ⟨Heap.get?_push_size _ hf, fun hm => by obtain ⟨o', e⟩ := I.liveAll _ hm; exact absurd (Heap.lt_size e) (Nat.lt_irrefl _)⟩
theorem fz_push_tok {o : Obj} {t : Nat} (I : InvH g os ad objs s) (hf : o.isFreed = false) : Fz g os ad ({ s with heap := s.heap.push o, toks := t } : Shared).heap s.heap.objs.size o := fz_push I hf

/-- what a step that makes nothing but frozen things hands on -/
abbrev Post (g : G) (os : List Addr) (ad : AD) (s : Shared) (K : SV → Prop) (Q : Value → Shared → Prop) : Prop :=
  ∀ v r s', K r → Rep g os ad s'.heap r v → Mono s s' → Q v s'

theorem IsL_list {vs : List Value} {n : Nat} {a : Addr} (e : h.get? a = some (lstObj vs n)) : h.IsList a vs.toArray := ⟨_, e, rfl, n, rfl⟩

/-- a value that is a list, frozen or not -/
theorem lOf_rep (I : InvH g os ad objs s) {x : SV} {v : Value} {l : List SV} (r : Rep g os ad s.heap x v) (e : lOf objs x = some l) :
    ∃ a vs n, v = .ref a ∧ s.heap.get? a = some (lstObj vs n) ∧ RepL g os ad s.heap l vs := by
  cases x <;> simp only [lOf] at e <;> try cases e
  · obtain ⟨a, vs, n, h1, h2, h3⟩ := r
    exact ⟨a, vs, n, h1, h2.1, h3⟩
  · rename_i i
    cases h1 : objs[i]? with
    | none => rw [h1] at e; cases e
    | some o =>
      rw [h1] at e
      cases o with
      | inst => cases e
      | list l' =>
        cases e
        obtain ⟨p, h2, h3⟩ := r
        obtain ⟨p', h4, h5⟩ := I.objs.get h1
        rw [h2] at h4; cases h4
        obtain ⟨_, vs, n, h6, h7⟩ := h5
        exact ⟨p.1, vs, n, h3, h6, h7⟩

theorem intsAre_of : ∀ {l : List SV} {vs : List Value} {ns : List Int}, RepL g os ad h l vs → intsOf l = some ns → IntsAre vs ns
  | [], vs, ns, r, e => by
    rw [show vs = [] from r]
    simp only [intsOf, Option.some.injEq] at e
    subst e
    exact .nil
  | .int i :: l, vs, ns, r, e => by
    obtain ⟨v, vr, rfl, ⟨t, rfl⟩, q⟩ := r
    simp only [intsOf, Option.map_eq_some_iff] at e
    obtain ⟨ns', e1, rfl⟩ := e
    exact .cons _ _ (intsAre_of q e1)
  | .unb :: _, _, _, _, e | .none :: _, _, _, _, e | .bool _ :: _, _, _, _, e | .str _ :: _, _, _, _, e | .bytes _ :: _, _, _, _, e | .tup _ :: _, _, _, _, e | .lst _ :: _, _, _, _, e
  | .dct _ _ :: _, _, _, _, e | .rng _ _ _ :: _, _, _, _, e | .ref _ :: _, _, _, _, e | .fn _ :: _, _, _, _, e | .clo _ _ :: _, _, _, _, e | .bi _ :: _, _, _, _, e | .ty _ :: _, _, _, _, e | .cls _ :: _, _, _, _, e => by simp [intsOf] at e

theorem bObj_size (b : List Nat) : (bObj b).size = b.length := by simp [bObj]
theorem bObj_append (b c : List Nat) : bObj b ++ bObj c = bObj (b ++ c) := by simp [bObj]
theorem bObj_inj {b c : List Nat} (hb : ∀ x ∈ b, x < 256) (hc : ∀ x ∈ c, x < 256) (e : bObj b = bObj c) : b = c := by
  have e' : b.map Nat.toUInt8 = c.map Nat.toUInt8 := by simpa [bObj] using e
  clear e
  induction b generalizing c with
  | nil => cases c with
    | nil => rfl
    | cons => simp at e'
  | cons x b ih => cases c with
    | nil => simp at e'
    | cons y c =>
      simp only [List.map_cons, List.cons.injEq] at e'
      have h1 := congrArg UInt8.toNat e'.1
      have hx := hb x (by simp)
      have hy := hc y (by simp)
      simp only [Nat.toUInt8_eq, UInt8.toNat_ofNat', Nat.reducePow] at h1
      rw [Nat.mod_eq_of_lt hx, Nat.mod_eq_of_lt hy] at h1
      rw [h1, ih (fun z hz => hb z (by simp [hz])) (fun z hz => hc z (by simp [hz])) e'.2]
end
end Vc
end
section
open PySem PySem.W PyProof.Rows PySem.Calls
set_option maxRecDepth 10000
set_option autoImplicit false
set_option linter.unusedVariables false
namespace Vc
section
variable {g : G} {os own : List Addr} {ad : AD} {objs : List AO} {s : Shared} {A : Around} {E : Value → Shared → Prop} {Q : Value → Shared → Prop} {K : SV → Prop} {a b : SV} {va vb : Value}

theorem rep_int (i : Int) (t : Tok) {h : Heap} : Rep g os ad h (.int i) (.int i t) := ⟨t, rfl⟩
theorem mul_ref {l : Addr} {vs : List Value} {k : Nat} {x : Int} {u : Tok}
    (hl : s.heap.get? l = some (lstObj vs k)) (hlo : -(2 ^ 63 : Int) ≤ x) (hhi : x < 2 ^ 63) (hsz : vs.length * x.toNat ≤ 2 ^ 24)
    (h : Q (.ref s.heap.objs.size) { s with heap := s.heap.push (lstObj (List.replicate x.toNat vs).flatten 0) }) :
    wpAny (model g.prog g.w) A (binaryOp .Mult (.ref l) (.int x u)) Q E s := by
  have hsz' : vs.toArray.size * x.toNat ≤ 2 ^ 24 := by simpa using hsz
  have e := listMul_foldl_if vs.toArray x.toNat
  have h' : Q (.ref s.heap.objs.size) { s with heap := s.heap.push { cls := .type "list", data := .seq (List.foldl (fun x1 x2 => x1 ++ x2) #[] (List.replicate (if vs.toArray.isEmpty = true then 0 else x.toNat) vs.toArray)) } } := by
    rw [e]; exact h
  exact wpAny_binaryOp_repeat_ref (T := "list") (U := "int") (by decide) ⟨_, hl, rfl⟩ (fun s' => typeIs_int s' x u) noFill_list_mul F.fills_int_mul F.slot_int_rmul repeat_list F.slot_int_index.lookup
    (call_meets F.slot_int_rmul (typeIs_int s x u) F.entry_int_rmul (F.args_int_rmul_2 _ _) (int___rmul___int_list x u l vs.toArray k)
      ⟨hl, rfl, ⟨_, hl, rfl⟩, call_meets F.slot_list_mul ⟨_, hl, rfl⟩ F.entry_list_mul (F.args_list_mul_2 _ _)
        (AutoListH.list___mul___list_int_3 l vs.toArray k x u (by simp [Builtin.List.listFitsIndex]; omega) (by omega) (by simp [Builtin.List.listTooLong, sizeLine]; omega))
        ⟨hl, h'⟩⟩)

theorem repl_flat {h : Heap} {l : List SV} {vs : List Value} (r : RepL g os ad h l vs) : ∀ n : Nat, RepL g os ad h (List.replicate n l).flatten (List.replicate n vs).flatten
  | 0 => rfl
  | n + 1 => by
    simp only [List.replicate_succ, List.flatten_cons]
    exact r.append (repl_flat r n)

theorem binOk {op : Operator} (I : InvH g os ad objs s) (ra : Rep g os ad s.heap a va) (rb : Rep g os ad s.heap b vb) (w : binW op a b objs K) (post : Post g os ad s K Q) :
    wpAny (model g.prog g.w) A (binaryOp op va vb) Q E s := by
  have pi : ∀ (i : Int), K (.int i) → Q (.int i s.toks) { s with toks := s.toks + 1 } := fun i k => post _ _ _ k ⟨_, rfl⟩ Mono.tok
  unfold binW at w
  split at w
  · obtain ⟨t, rfl⟩ := ra
    obtain ⟨u, rfl⟩ := rb
    split at w
    · exact PyProof.Rows.add_int (pi _ w)
    · exact PyProof.Rows.sub_int (pi _ w)
    · exact PyProof.Rows.mul_int (pi _ w.2) w.1
    · exact PyProof.Rows.floordiv_int w.1.1 (pi _ w.2) (Or.inl (PyProof.noPylong_small w.1.2))
    · exact PyProof.Rows.mod_int' w.1 (pi _ w.2)
    · exact PyProof.Rows.lshift_int w.1.1 w.1.2 (pi _ w.2)
    · exact PyProof.Rows.rshift_int w.1 (pi _ w.2)
    · exact PyProof.Rows.and_int (pi _ w)
    · exact PyProof.Rows.or_int (pi _ w)
    · exact PyProof.Rows.xor_int (pi _ w)
    · exact w.elim
  · rename_i x y
    obtain ⟨hx, t, rfl⟩ := ra
    obtain ⟨hy, u, rfl⟩ := rb
    split at w
    · refine KBy.add_bytes (by rw [bObj_size, bObj_size]; have := w.1; simp only [lim] at this; omega) fun t' k => ?_
      rw [bObj_append]
      exact post _ _ _ w.2 ⟨fun z hz => (List.mem_append.mp hz).elim (hx z) (hy z), t', rfl⟩ Mono.tok
    · exact w.elim
  · rename_i n _ 
    obtain ⟨u, rfl⟩ := rb
    split at w
    · rename_i l hl
      obtain ⟨p, vs, k, rfl, h1, h2⟩ := lOf_rep I ra hl
      refine mul_ref h1 (by omega) (by omega) ?_ ?_
      · rw [h2.length]; have := w.1.2.2; simp only [lim] at this; omega
      · exact post _ _ _ w.2 ⟨_, _, _, rfl, fz_push I rfl, (repl_flat h2 _).stays (Mono.push' _).stays⟩ (Mono.push' _)
    · exact w.elim
  · split at w
    · rename_i l l' hl hl'
      obtain ⟨p, vs, k, rfl, h1, h2⟩ := lOf_rep I ra hl
      obtain ⟨p', vs', k', rfl, h1', h2'⟩ := lOf_rep I rb hl'
      refine P.add_list h1 h1' ?_ ?_
      · rw [List.append_toArray]
        exact post _ _ _ w.2 ⟨_, _, _, rfl, fz_push I rfl, (h2.append h2').stays (Mono.push' _).stays⟩ (Mono.push' _)
      · simp only [List.size_toArray, h2.length, h2'.length, sizeLine]; have := w.1; simp only [lim] at this; omega
    · exact w.elim

theorem ibinOk {op : Operator} (I : InvH g os ad objs s) (ra : Rep g os ad s.heap a va) (rb : Rep g os ad s.heap b vb) (w : ibinW op a b K) (post : Post g os ad s K Q) :
    wpAny (model g.prog g.w) A (inplaceOp op va vb) Q E s := by
  have pi : ∀ (i : Int), K (.int i) → Q (.int i s.toks) { s with toks := s.toks + 1 } := fun i k => post _ _ _ k ⟨_, rfl⟩ Mono.tok
  unfold ibinW at w
  split at w
  · obtain ⟨t, rfl⟩ := ra
    obtain ⟨u, rfl⟩ := rb
    split at w
    · exact PyProof.Rows.iadd_int (pi _ w)
    · exact PyProof.Rows.isub_int (pi _ w)
    · exact PyProof.Rows.imod_int w.1 (pi _ w.2)
    · exact PyProof.Rows.ilshift_int w.1.1 w.1.2 (pi _ w.2)
    · exact PyProof.Rows.irshift_int w.1 (pi _ w.2)
    · exact PyProof.Rows.iand_int (pi _ w)
    · exact PyProof.Rows.ior_int (pi _ w)
    · exact PyProof.Rows.ixor_int (pi _ w)
    · exact w.elim
  · rename_i x y
    obtain ⟨hx, t, rfl⟩ := ra
    obtain ⟨hy, u, rfl⟩ := rb
    split at w
    · refine wpAny_inplaceOp_concat (T := "bytes") (id := "bytes.__add__") (typeIs_bytes s _ t) (typeIs_bytes s _ u) (by rw [typeLookup_type, builtinLookup_eq_fast]; kernel_rfl) KBy.noFill_bytes_add KBy.seq_bytes_add ?_
      have hsz : (bObj x).size + (bObj y).size ≤ 16777216 := by rw [bObj_size, bObj_size]; have := w.1; simp only [lim] at this; omega
      have h : ∀ t' k, Q (.bytes (bObj x ++ bObj y) t') { s with toks := k } := fun t' k => by
        rw [bObj_append]
        exact post _ _ _ w.2 ⟨fun z hz => (List.mem_append.mp hz).elim (hx z) (hy z), t', rfl⟩ Mono.tok
      refine call_gives FB.slot_bytes_add (typeIs_bytes s _ t) FB.entry_bytes_add (FB.args_bytes_add_2 _ _) (KBy.gives_bytes_add (KBy.tooLong_not hsz)) ?_
      by_cases hb : (bObj x).isEmpty = true
      · rw [if_pos hb]
        have h' := h u s.toks
        rw [Array.isEmpty_iff.1 hb, Array.empty_append] at h'
        exact h'
      · rw [if_neg hb]
        by_cases hc : (bObj y).isEmpty = true
        · rw [if_pos hc]
          have h' := h t s.toks
          rw [Array.isEmpty_iff.1 hc, Array.append_empty] at h'
          exact h'
        · rw [if_neg hc]
          exact ⟨by rw [Array.size_append, sizeLine_eq]; exact hsz, h s.toks (s.toks + 1)⟩
    · exact w.elim
  · exact w.elim

theorem cmpOk {op : CmpOp} (I : InvH g os ad objs s) (ra : Rep g os ad s.heap a va) (rb : Rep g os ad s.heap b vb) (w : cmpW op a b objs K) (post : Post g os ad s K Q) :
    wpAny (model g.prog g.w) A (compareOp op va vb) Q E s := by
  have pb : ∀ (b b' : Bool), K (.bool b') → b' = b → Q (.bool b) s := fun b b' k e => post _ _ _ k (by subst e; rfl) Mono.refl
  unfold cmpW at w
  split at w
  · obtain ⟨t, rfl⟩ := ra
    obtain ⟨u, rfl⟩ := rb
    split at w
    · exact PyProof.Rows.eq_int (pb _ _ w (by rw [Bool.eq_iff_iff]; simp))
    · exact PyProof.Rows.ne_int (pb _ _ w (by rw [Bool.eq_iff_iff]; simp))
    · exact PyProof.Rows.lt_int (pb _ _ w rfl)
    · exact PyProof.Rows.le_int (pb _ _ w rfl)
    · exact PyProof.Rows.gt_int (pb _ _ w rfl)
    · exact PyProof.Rows.ge_int (pb _ _ w rfl)
    · exact w.elim
  · cases ra; cases rb
    split at w
    · exact PyProof.Rows.eq_bool (pb _ _ w rfl)
    · exact PyProof.Rows.ne_bool (pb _ _ w rfl)
    · exact w.elim
  · rename_i x y
    obtain ⟨hx, t, rfl⟩ := ra
    obtain ⟨hy, u, rfl⟩ := rb
    split at w
    · refine PySem.W.eq_bytes (pb _ _ w ?_)
      rw [Bool.eq_iff_iff]
      simp only [decide_eq_true_eq, beq_iff_eq]
      exact ⟨fun e => by rw [e], fun e => bObj_inj hx hy (by simpa [bObj] using e)⟩
    · refine PySem.W.ne_bytes (pb _ _ w ?_)
      rw [Bool.eq_iff_iff]
      simp only [decide_eq_true_eq, bne_iff_ne, ne_eq]
      exact ⟨fun h e => h (bObj_inj hx hy (by simpa [bObj] using e)), fun h e => h (by rw [e])⟩
    · exact w.elim
  · cases rb
    split at w
    · split at w
      · cases ra
        exact PyProof.Rows.isnot_none_gen (pb _ _ w rfl)
      · obtain ⟨_, t, rfl⟩ := ra
        exact PyProof.Rows.isnot_none_gen (pb _ _ w rfl)
      · exact w.elim
    · exact w.elim
  · obtain ⟨t, rfl⟩ := ra
    split at w
    · rename_i l hl
      split at w
      · rename_i ns hn
        obtain ⟨p, vs, k, rfl, h1, h2⟩ := lOf_rep I rb hl
        refine in_list_ints (IsL_list h1) (intsAre_of h2 hn) (pb _ _ w.2 ?_)
        rw [Bool.eq_iff_iff]; simp
      · exact w.elim
    · rename_i l hl
      split at w
      · rename_i ns hn
        obtain ⟨p, vs, k, rfl, h1, h2⟩ := lOf_rep I rb hl
        refine notin_list_ints (IsL_list h1) (intsAre_of h2 hn) (pb _ _ w.2 ?_)
        rw [Bool.eq_iff_iff]; simp
        exact ⟨fun h x hx e => h (e ▸ hx), fun h hx => h _ hx rfl⟩
      · exact w.elim
    · exact w.elim
  · exact w.elim

theorem truOk {KB : Bool → Prop} {QB : Bool → Shared → Prop} (I : InvH g os ad objs s) (ra : Rep g os ad s.heap a va) (w : truW a objs KB) (post : ∀ b s', KB b → Mono s s' → QB b s') :
    wpAny (model g.prog g.w) A (truthy va) QB E s := by
  unfold truW at w
  split at w
  · cases ra; exact wpAny_truthy_bool (post _ _ w Mono.refl)
  · obtain ⟨t, rfl⟩ := ra
    exact PyProof.Rows.truthy_int (post _ _ (by
      rename_i i
      have e : (i != 0) = decide (i ≠ 0) := by rw [Bool.eq_iff_iff]; simp
      rw [e]; exact w) Mono.refl)
  · cases ra; exact truthy_none (post _ _ w Mono.refl)
  · split at w
    · rename_i l hl
      obtain ⟨p, vs, k, rfl, h1, h2⟩ := lOf_rep I ra hl
      refine wpAny_truthy_list (IsL_list h1) ?_ (post _ _ ?_ Mono.tok)
      · simp only [List.size_toArray, h2.length]; have := w.1; simp only [lim] at this; omega
      · have e : (vs.toArray.isEmpty) = l.isEmpty := by
          rw [Bool.eq_iff_iff]
          simp only [List.isEmpty_toArray, List.isEmpty_iff]
          rw [← List.length_eq_zero_iff, ← List.length_eq_zero_iff, h2.length]
        rw [e]; exact w.2
    · exact w.elim
end
end Vc
end
section
open PySem PySem.W PyProof.Rows PySem.Calls
set_option maxRecDepth 10000
set_option autoImplicit false
set_option linter.unusedVariables false
namespace Vc
section
variable {g : G} {os own : List Addr} {ad : AD} {objs : List AO} {s : Shared} {A : Around} {E : Value → Shared → Prop} {Q : Value → Shared → Prop} {K : SV → Prop} {a b : SV} {va vb : Value}

/-- an item may be read -/
def ItemOk (g : G) (A : Around) (E : Value → Shared → Prop) (o i : Value) (Q : Value → Shared → Prop) (s : Shared) : Prop :=
  ∃ T id, typeLookup (.type T) "__getitem__" = pure (some (.builtin id)) ∧ s.TypeIs o T ∧ wpAny (model g.prog g.w) A (getItem o i) Q E s

theorem getItemL {p : Addr} {vs : List Value} {k : Nat} {i : Int} {t : Tok} {j : Nat} {v : Value} (h : s.heap.get? p = some (lstObj vs k)) (hi : -(2 ^ 62) < i ∧ i < 2 ^ 62) (e : idx vs.length i = some j) (hv : vs[j]? = some v) (q : Q v s) :
    wpAny (model g.prog g.w) A (getItem (.ref p) (.int i t)) Q E s := by
  unfold idx at e
  split at e
  · rename_i h0
    split at e
    · cases e
      exact wpAny_getItem_list (IsL_list h) h0 (by omega) (by simpa using hv) q
    · cases e
  · rename_i h0
    split at e
    · rename_i h1
      cases e
      exact wpAny_getItem_list_neg (IsL_list h) (by omega) (by simp only [List.size_toArray]; omega) (by omega) (by simpa using hv) q
    · cases e
theorem idx_seq {n : Nat} {i : Int} {j : Nat} (e : idx n i = some j) : seqIndex? i n = some j := by
  unfold idx at e
  cases i with
  | ofNat m =>
    have h0 : (0 : Int) ≤ Int.ofNat m := Int.natCast_nonneg m
    rw [if_pos h0] at e
    split at e
    · rename_i h1
      cases e
      have h2 : m < n := by have : (m : Int) < n := h1; omega
      unfold seqIndex?
      simp; omega
    · cases e
  | negSucc m =>
    have h0 : ¬ (0 : Int) ≤ Int.negSucc m := by simp
    rw [if_neg h0] at e
    split at e
    · rename_i h1
      cases e
      exact seqIndex_neg (by omega) (by omega)
    · cases e

theorem subOk (I : InvH g os ad objs s) (ra : Rep g os ad s.heap a va) (rb : Rep g os ad s.heap b vb) (w : subW a b objs K) (post : Post g os ad s K Q) : ItemOk g A E va vb Q s := by
  unfold subW at w
  split at w
  · obtain ⟨u, rfl⟩ := rb
    split at w
    · rename_i _ i _ x
      obtain ⟨hx, t, rfl⟩ := ra
      obtain ⟨⟨w1, w2, w3⟩, w4⟩ := w
      simp only [lim] at w1
      refine ⟨"bytes", _, FB.slot_bytes_getitem.lookup, typeIs_bytes _ _ _, PySem.W.getItem_bytes (by rw [List.length_map]; omega) w2 (by rw [List.length_map]; exact w3) ?_⟩
      refine post _ _ _ w4 ⟨s.toks, ?_⟩ Mono.tok
      have e : (((List.map Nat.toUInt8 x).getD i.toNat 0).toNat) = x.getD i.toNat 0 := by
        have hl : i.toNat < x.length := by omega
        simp only [List.getD_eq_getElem?_getD, List.getElem?_map, List.getElem?_eq_getElem hl, Option.map_some, Option.getD_some]
        have := hx _ (List.getElem_mem hl)
        simp only [Nat.toUInt8_eq, UInt8.toNat_ofNat', Nat.reducePow]
        exact Nat.mod_eq_of_lt this
      rw [e]
    · rename_i _ i _ ks l
      obtain ⟨p, vs, rfl, ⟨o, f, hm⟩, r⟩ := ra
      split at w
      · rename_i x hx
        have z : ∀ (ks : List Int) (l : List SV) (vs : List Value), RepL g os ad s.heap l vs → (ks.zip l).lookup i = some x → ∃ v, (ks.zip vs).lookup i = some v ∧ Rep g os ad s.heap x v := by
          intro ks
          induction ks with
          | nil => intro l vs _ e; simp at e
          | cons k ks ih =>
            intro l vs r e
            cases l with
            | nil => simp at e
            | cons y l =>
              obtain ⟨v, vr, rfl, q, q'⟩ := r
              simp only [List.zip_cons_cons, List.lookup_cons] at e ⊢
              cases hk : i == k with
              | true => rw [hk] at e; cases e; exact ⟨v, rfl, q⟩
              | false => rw [hk] at e; exact ih l vr q' e
        obtain ⟨v, hv, rv⟩ := z ks l vs r hx
        have M := hm s.heap f.1
        exact ⟨"dict", _, slot_dict_getitem.lookup, M.typeIs, wpAny_getItem_of (knd := PySem.intKind g.prog g.w) (by simp [PySem.intKind, Value.isInt]) M hv (post _ _ _ w (rv.stays Mono.tok.stays) Mono.tok)⟩
      · exact w.elim
    · rename_i _ i _ l
      obtain ⟨p, vs, n, rfl, f, r⟩ := ra
      obtain ⟨w1, w⟩ := w
      split at w
      · rename_i j hj
        split at w
        · rename_i x hx
          obtain ⟨v, hv, rv⟩ := r.get j x hx
          have T : IsTup s.heap p vs.toArray := ⟨_, f.1, rfl, n, rfl⟩
          refine ⟨"tuple", _, slot_tuple_getitem.lookup, T.typeIs, getItem_tuple T (by omega) (by omega) ?_ (by simpa using hv) (post _ _ _ w rv Mono.refl)⟩
          rw [List.size_toArray, r.length]; exact idx_seq hj
        · exact w.elim
      · exact w.elim
    · split at w
      · rename_i l hl
        obtain ⟨p, vs, k, rfl, h1, h2⟩ := lOf_rep I ra hl
        obtain ⟨w1, w⟩ := w
        split at w
        · rename_i j hj
          split at w
          · rename_i x hx
            obtain ⟨v, hv, rv⟩ := h2.get j x hx
            exact ⟨"list", _, slot_list_getitem.lookup, (IsL_list h1).typeIs, getItemL h1 w1 (by rw [h2.length]; exact hj) hv (post _ _ _ w rv Mono.refl)⟩
          · exact w.elim
        · exact w.elim
      · exact w.elim
  · exact w.elim

theorem part_is {x : SV} {v : Value} {p : Option Int} (e : part x = some p) (r : Rep g os ad s.heap x v) : IsPart v p := by
  unfold part at e
  split at e
  · cases e; cases r; exact .none
  · cases e; obtain ⟨t, rfl⟩ := r; exact .int _ _
  · cases e
theorem cut_rep {h : Heap} {l : List SV} {vs : List Value} (r : RepL g os ad h l vs) (p q : Option Int) : RepL g os ad h (cut l p q) (cut vs p q) := by
  unfold cut
  rw [r.length]
  exact (r.drop _).take _

/-- a slice: s stands before the slice object is made -/
theorem sliceOk {lo hi : SV} {vl vh : Value} (I : InvH g os ad objs s) (ra : Rep g os ad s.heap a va) (rl : Rep g os ad s.heap lo vl) (rh : Rep g os ad s.heap hi vh) (w : sliceW a lo hi objs K) (post : Post g os ad s K Q) :
    ItemOk g A E va (.ref s.heap.objs.size) Q { s with heap := s.heap.push { cls := .type "slice", data := .fields #[vl, vh, .none] } } := by
  have m1 : Mono s { s with heap := s.heap.push { cls := .type "slice", data := .fields #[vl, vh, .none] } } := Mono.push' _
  have hs := Heap.IsSliceOf.new s.heap vl vh .none
  have I1 := I.mono m1
  unfold sliceW at w
  split at w
  · rename_i x
    obtain ⟨hx, t, rfl⟩ := ra
    obtain ⟨w1, w⟩ := w
    split at w
    · rename_i p q hp hq
      have hl := part_is hp rl
      have hu := part_is hq rh
      have e : KBy.picked (bObj x) p q = bObj (cut x p q) := by
        rw [KBc.picked_eq]
        unfold cut
        simp [bObj, List.map_drop, List.map_take]
      refine ⟨"bytes", _, FB.slot_bytes_getitem.lookup, typeIs_bytes _ _ _, getItem_meets (typeIs_bytes _ _ _) (by decide) FB.slot_bytes_getitem FB.entry_bytes_getitem (FB.args_bytes_getitem_2 _ _) (KBc.meets_slice2 _ t _ hl hu) ⟨hs, ?_, ?_⟩⟩
      · refine Nat.le_trans (KBc.size_picked_le _ _ _) ?_
        rw [bObj_size, sizeLine_eq]; simp only [lim] at w1; omega
      · intro t' k
        rw [e]
        exact post _ _ _ w ⟨fun z hz => hx z (List.mem_of_mem_drop (List.mem_of_mem_take hz)), t', rfl⟩ (m1.trans Mono.tok)
    · exact w.elim
  · split at w
    · rename_i l hl
      obtain ⟨p, vs, k, rfl, h1, h2⟩ := lOf_rep I ra hl
      obtain ⟨w1, w⟩ := w
      split at w
      · rename_i p q hp hq
        have hl := part_is hp rl
        have hu := part_is hq rh
        refine ⟨"list", _, slot_list_getitem.lookup, (IsL_list (m1.keep _ _ h1)).typeIs, wpAny_getItem_list_slice (IsL_list (m1.keep _ _ h1)) hs hl hu .none (by simp) ?_ ?_⟩
        · rw [slicePick_plain]
          have e : (List.drop (p.elim 0 (clipAt vs.toArray.size)) vs.toArray.toList).take (q.elim vs.toArray.size (clipAt vs.toArray.size) - p.elim 0 (clipAt vs.toArray.size)) = cut vs p q := by simp [cut]
          rw [e]
          have m2 : Mono s { s with heap := (s.heap.push { cls := .type "slice", data := .fields #[vl, vh, .none] }).push (lstObj (cut vs p q) 0) } := ⟨fun a o e => Heap.get?_push_of_some _ (m1.keep a o e), rfl, rfl⟩
          exact post _ _ _ w ⟨_, _, _, rfl, fz_push I1 rfl, (cut_rep h2 p q).stays m2.stays⟩ m2
        · simp only [List.size_toArray, h2.length, sizeLine]; simp only [lim] at w1; omega
      · exact w.elim
    · exact w.elim
end
end Vc
end
section
open PySem PySem.W PyProof.Rows PySem.Calls
set_option maxRecDepth 10000
set_option autoImplicit false
set_option linter.unusedVariables false
namespace Vc

def noStar : List Expr → Bool
  | [] => true
  | .Starred _ _ :: _ => false
  | _ :: r => noStar r
theorem star_of : ∀ {es : List Expr} (pos : Pos) (env : Env), noStar es = true → backTo pos (starEach es env) = es.map fun e => (false, eval e env)
  | [], _, _, _ => rfl
  | e :: r, pos, env, h => by
    cases e <;> first
      | (have ih := star_of (es := r) pos env h
         show (false, _) :: backTo pos (starEach r env) = _
         rw [ih]; rfl)
      | (simp [noStar] at h)
theorem map_any (es : List Expr) (env : Env) : (es.map fun e => (false, eval e env)).any (·.1) = false := by
  induction es with
  | nil => rfl
  | cons e r ih => simp [ih]
theorem map_all (es : List Expr) (env : Env) : (es.map fun e => (false, eval e env)).all (fun x => !x.1) = true := by
  induction es with
  | nil => rfl
  | cons e r ih => simp [ih]

section
variable {g : G} {os own : List Addr} {ad : AD} {objs : List AO} {s : Shared} {A : Around} {E : Value → Shared → Prop} {Q : Value → Shared → Prop} {K : SV → Prop} {a b : SV} {va vb : Value} {env : Env}

theorem evalArgs_any {M : Model} {f : Value} {es : List Expr} {Q : Args → Shared → Prop} (h : wpAny M A (spliced (es.map fun e => (false, eval e env))) (fun vs s' => Q ⟨vs, []⟩ s') E s) :
    wpAny M A (evalArgs f true (es.map fun e => (false, eval e env)) []) Q E s := by
  cases es with
  | nil =>
    unfold evalArgs
    show wpAny M A (spliced [] >>= _) _ _ _
    refine wpAny_bind (wpAny_mono h (fun vs s' h' => ?_) fun _ _ x => x)
    refine wpAny_bind (wpAny_pure ?_)
    refine wpAny_holding ?_
    exact wpAny_bind (wpAny_pure (wpAny_bind (wpAny_pure (wpAny_pure h'))))
  | cons e r => exact evalArgs_plain h

/-- a call: what is called stands firm while the arguments are evaluated -/
theorem callWith_any {M : Model} {P : Heap → Prop} {pos : Pos} {f : Value} {first : List Value} {es : List Expr} {Q : Value → Shared → Prop}
    (hk : ∀ h, P h → ∃ k, (k = Keeper.frame ∨ k = Keeper.machine ∨ k = Keeper.boundFrame) ∧ Looks M h (keeperOf f) k)
    (h : wpAny M A (spliced (es.map fun e => (false, eval e env))) (fun vs s₁ => P s₁.heap ∧ wpAny M A (call f (first ++ vs)) Q E s₁) E s) :
    wpAny M A (callWith pos f first (es.map fun e => (false, eval e env)) []) Q E s :=
  callWith_of (by rw [map_any]; rfl) hk (evalArgs_any h)

theorem keep_builtin {M : Model} (id : String) (h : Heap) : ∃ k, (k = Keeper.frame ∨ k = Keeper.machine ∨ k = Keeper.boundFrame) ∧ Looks M h (keeperOf (.builtin id)) k := ⟨.machine, .inr (.inl rfl), Looks.of_pure rfl⟩
theorem keep_type {M : Model} (id : String) (h : Heap) : ∃ k, (k = Keeper.frame ∨ k = Keeper.machine ∨ k = Keeper.boundFrame) ∧ Looks M h (keeperOf (.type id)) k := ⟨.machine, .inr (.inl rfl), Looks.of_pure rfl⟩
theorem keep_fn {M : Model} {a : Addr} {o : Obj} {fd : FuncData} (h : Heap) (e : h.get? a = some o) (hd : o.data = .func fd) : ∃ k, (k = Keeper.frame ∨ k = Keeper.machine ∨ k = Keeper.boundFrame) ∧ Looks M h (keeperOf (.ref a)) k := by
  obtain ⟨c, d, dt, sl⟩ := o
  cases hd
  exact ⟨.frame, .inl rfl, (Looks.ld (part := none) e).andThen .now⟩

/-- not the one call that looks at its text -/
def notSuper : Expr → Bool
  | .Call (.Name _ _) [] [] _ => false
  | _ => true
theorem base_of {o : Expr} {name : Str} {env : Env} {t : Sem Value} (h : notSuper o = true) : attributeBase o name env t = t := by
  unfold attributeBase
  split
  · cases h
  · rfl

theorem Call_method {o : Expr} {name : Str} {apos pos : Pos} {es : List Expr} {Q : Value → Shared → Prop} (hb : notSuper o = true) (hn : noStar es = true) (hl : es.length < 20) (hline : (apos.endLine == pos.line) = true)
    (h : wpAny (model g.prog g.w) A (eval o env) (fun ov s₁ => ∀ pl, wpAny (model g.prog g.w) A (getMethod ov name pl) (fun fx s₂ => wpAny (model g.prog g.w) A (callWith pos fx.1 fx.2 (es.map fun e => (false, eval e env)) []) Q E s₂) E s₁) E s) :
    wpAny (model g.prog g.w) A (eval (.Call (.Attribute o name apos) es [] pos) env) Q E s := by
  rw [arm_eval_Call, base_of hb, star_of pos env hn]
  refine wpAny_bind (wpAny_mono h (fun ov s₁ h₁ => wpAny_bind (wpAny_standAt ?_)) fun _ _ x => x)
  unfold methodCall
  have hf : methodCallForm (es.length + ([] : List Keyword).length) (es.map fun e => (false, eval e env)) (backToKw pos (keywordEach [] env)) = true := by
    unfold methodCallForm
    rw [map_all]
    show (true && true && decide (es.length + 0 + 0 < 30)) = true
    simp; omega
  rw [hf]
  refine wpAny_bind (wpAny_holding ?_)
  unfold calleeOf
  simp only [if_true]
  refine wpAny_mono (h₁ _) (fun fx s₂ h₂ => ?_) fun _ _ x => x
  obtain ⟨f, first⟩ := fx
  have hp : methodCallPos true o env apos pos = pure pos := by
    unfold methodCallPos
    rw [hline]; rfl
  rw [hp]
  exact wpAny_bind (wpAny_pure h₂)
end
end Vc
end
section
open PySem PySem.W PyProof.Rows PySem.Calls
set_option maxRecDepth 10000
set_option autoImplicit false
set_option linter.unusedVariables false
namespace Vc
section
variable {g : G} {os own new : List Addr} {ad ad' : AD} {objs objs' : List AO} {vars : List SV} {s s' s'' : Shared} {A : Around} {E : Value → Shared → Prop} {env : Env} {nm : List (Str × Nat)} {wr : Str → Bool} {σ : St} {h h' : Heap}

theorem Stays.grow (m : Mono s s') (hn : ∀ a ∈ new, s.heap.get? a = none) : Stays g os ad s.heap (new ++ os) ad s'.heap := by
  refine ⟨fun a o ⟨q, n⟩ => ⟨m.keep a o q, fun hm => ?_⟩, fun _ _ e => e⟩
  rw [mem_mt, List.mem_append] at hm
  rw [mem_mt] at n
  rcases hm with (hm | hm) | hm
  · rw [hn a hm] at q; cases q
  · exact n (.inl hm)
  · exact n (.inr hm)
theorem Stays.shrink : Stays g (new ++ os) ad h os ad h := by
  refine ⟨fun a o ⟨q, n⟩ => ⟨q, fun hm => n ?_⟩, fun _ _ e => e⟩
  rw [mem_mt, List.mem_append]
  rw [mem_mt] at hm
  exact hm.imp .inr id
theorem InvH.grow (I : InvH g os ad objs s) (m : Mono s s') (hn : ∀ a ∈ new, s.heap.get? a = none) (hl : ∀ a ∈ new, ∃ o, s'.heap.get? a = some o) : InvH g (new ++ os) ad objs s' where
  base := fun a o e => m.keep a o (I.base a o e)
  fresh₀ := fun a ha => by
    rw [mem_mt, List.mem_append] at ha
    rcases ha with (ha | ha) | ha
    · cases e : g.h₀.get? a with
      | none => rfl
      | some o => have := I.base a o e; rw [hn a ha] at this; cases this
    · exact I.fresh₀ a (mem_mt.mpr (.inl ha))
    · exact I.fresh₀ a (mem_mt.mpr (.inr ha))
  live := fun a ha => by
    rcases List.mem_append.mp ha with ha | ha
    · exact hl a ha
    · obtain ⟨o, e⟩ := I.live a ha; exact ⟨o, m.keep a o e⟩
  nodup := I.nodup
  ap1 := fun a ha hm => by
    rcases List.mem_append.mp ha with ha | ha
    · obtain ⟨o, e⟩ := I.objs.live a hm; rw [hn a ha] at e; cases e
    · exact I.ap1 a ha hm
  ap2 := fun a ha => ⟨fun hm => by
    rcases List.mem_append.mp hm with hm | hm
    · obtain ⟨o, e, _⟩ := I.tabs a ha; rw [hn a hm] at e; cases e
    · exact (I.ap2 a ha).1 hm, (I.ap2 a ha).2⟩
  tabs := fun a ha => let ⟨o, e, t⟩ := I.tabs a ha; ⟨o, m.keep a o e, t.stays (Stays.grow m hn)⟩
  objs := ⟨I.objs.1, fun i o p e1 e2 => (I.objs.2 i o p e1 e2).stays (Stays.grow m hn) fun a _ o e => m.keep a o e⟩
theorem InvH.shrink (I : InvH g (new ++ os) ad objs s) : InvH g os ad objs s where
  base := I.base
  fresh₀ := fun a ha => I.fresh₀ a (by rw [mem_mt] at ha ⊢; exact ha.imp (fun x => List.mem_append_right _ x) id)
  live := fun a ha => I.live a (List.mem_append_right _ ha)
  nodup := I.nodup
  ap1 := fun a ha => I.ap1 a (List.mem_append_right _ ha)
  ap2 := fun a ha => ⟨fun hm => (I.ap2 a ha).1 (List.mem_append_right _ hm), (I.ap2 a ha).2⟩
  tabs := fun a ha => let ⟨o, e, t⟩ := I.tabs a ha; ⟨o, e, t.stays Stays.shrink⟩
  objs := ⟨I.objs.1, fun i o p e1 e2 => (I.objs.2 i o p e1 e2).stays Stays.shrink fun a _ o e => e⟩
theorem FrOk.grow (F : FrOk g os own env nm wr ad vars s.heap) (m : Mono s s') (hn : ∀ a ∈ new, s.heap.get? a = none) : FrOk g (new ++ os) own env nm wr ad vars s'.heap := by
  have st := Stays.grow (g := g) (os := os) (ad := ad) m hn
  refine ⟨F.kind, F.glob, F.blt, fun a ha => List.mem_append_right _ (F.inOs a ha), F.loc, ?_, ?_, F.inj, F.wr⟩
  · obtain ⟨mm, hm, hv⟩ := F.ns
    exact ⟨mm, hm.keeps m.keep, fun x i h1 h2 sv h3 => (hv x i h1 h2 sv h3).stays st⟩
  · intro x i h1 h2
    obtain ⟨hk, c, ov, h3, h4, h5, h6, h7, h8⟩ := F.cells x i h1 h2
    exact ⟨hk, c, ov, h3, h4.keeps m.keep, fun sv q => (h5 sv q).stays st, h6, h7, h8⟩
theorem FrOk.shrink (F : FrOk g (new ++ os) own env nm wr ad vars h) (ho : ∀ a ∈ own, a ∈ os) : FrOk g os own env nm wr ad vars h := by
  have st := Stays.shrink (g := g) (os := os) (ad := ad) (new := new) (h := h)
  refine ⟨F.kind, F.glob, F.blt, ho, F.loc, ?_, ?_, F.inj, F.wr⟩
  · obtain ⟨mm, hm, hv⟩ := F.ns
    exact ⟨mm, hm, fun x i h1 h2 sv h3 => (hv x i h1 h2 sv h3).stays st⟩
  · intro x i h1 h2
    obtain ⟨hk, c, ov, h3, h4, h5, h6, h7, h8⟩ := F.cells x i h1 h2
    exact ⟨hk, c, ov, h3, h4, fun sv q => (h5 sv q).stays st, h6, h7, h8⟩
theorem Inv.grow (I : Inv g os own env nm wr ad σ s) (m : Mono s s') (hn : ∀ a ∈ new, s.heap.get? a = none) (hl : ∀ a ∈ new, ∃ o, s'.heap.get? a = some o) : Inv g (new ++ os) own env nm wr ad σ s' := ⟨I.H.grow m hn hl, I.F.grow m hn⟩
theorem Inv.shrink (I : Inv g (new ++ os) own env nm wr ad σ s) (ho : ∀ a ∈ own, a ∈ os) : Inv g os own env nm wr ad σ s := ⟨I.H.shrink, I.F.shrink ho⟩

/-- only what stands at the one place may be another -/
structure ModI (i : Addr) (s s' : Shared) : Prop where
  keep : ∀ a o, a ≠ i → s.heap.get? a = some o → s'.heap.get? a = some o
  live : (∃ o, s.heap.get? i = some o) → ∃ o, s'.heap.get? i = some o
  rest : s'.os = s.os ∧ s'.gens = s.gens
theorem ModI.step {i : Addr} (m : ModI i s s') : Step g [i] ad s ad s' := ⟨⟨[], by simp, by simp [adr]⟩, fun a o h1 _ _ e => m.keep a o (by simpa using h1) e, m.rest⟩
theorem ModI.inv {i : Addr} (m : ModI i s s') (I : InvH g os ad objs s) (hi : i ∈ os) : InvH g os ad objs s' := by
  have st := (m.step (g := g) (ad := ad)).stays (os := os) (by simpa using hi)
  have n1 := I.ap1 i hi
  have n2 : i ∉ g.tabs := fun q => (I.ap2 i q).1 hi
  have n0 : g.h₀.get? i = none := I.fresh₀ i (mem_mt.mpr (.inl hi))
  refine ⟨fun a o e => m.keep a o (fun q => by rw [q, n0] at e; cases e) (I.base a o e), I.fresh₀, fun a ha => ?_, I.nodup, I.ap1, I.ap2, fun a ha => ?_, I.objs.1, fun j o p e1 e2 => ?_⟩
  · by_cases q : a = i
    · subst q; exact m.live (I.live a ha)
    · obtain ⟨o, e⟩ := I.live a ha; exact ⟨o, m.keep a o q e⟩
  · obtain ⟨o, e, t⟩ := I.tabs a ha
    exact ⟨o, m.keep a o (fun q => n2 (q ▸ ha)) e, t.stays st⟩
  · refine (I.objs.2 j o p e1 e2).stays st fun a ha o' e => m.keep a o' (fun q => n1 ?_) e
    subst q
    simp only [List.mem_cons, Option.mem_toList] at ha
    rcases ha with rfl | ha
    · exact adr_of_get e2
    · exact adr_of_get2 e2 ha
theorem ModI.fr {i : Addr} (m : ModI i s s') (I : InvH g os ad objs s) (hi : i ∈ os) (F : FrOk g os own env nm wr ad vars s.heap) (hn : env.locals ≠ i ∧ ∀ c, NmCell env nm c → c ≠ i) : FrOk g os own env nm wr ad vars s'.heap :=
  F.step I m.step (own₂ := [i]) (by simpa using .inl hi) ⟨by simpa using hn.1, fun c e => by simpa using hn.2 c e⟩

def isIt : SV → Bool
  | .lst _ | .tup _ | .rng _ _ _ | .bytes _ | .ref _ => true
  | _ => false
/-- an iterator that has given k items -/
def ItAt (x : SV) (v : Value) (i : Addr) (k : Nat) (h : Heap) : Prop := match x with
  | .lst _ | .ref _ => ∃ a, v = .ref a ∧ h.IsListIter i a k
  | .tup _ => ∃ a, v = .ref a ∧ h.IsTupleIter i a k
  | .rng a b c => IsRangeIter h i (a + k * c) (Builtin.Range.rangeSize a b c - k) c
  | .bytes b => ∃ t, v = .bytes (bObj b) t ∧ KBw.IsBytesIter h i (bObj b) t k
  | _ => False
theorem ItAt.keep {x : SV} {v : Value} {i : Addr} {k : Nat} (y : ItAt x v i k h) (e : ∀ o, h.get? i = some o → h'.get? i = some o) : ItAt x v i k h' := by
  cases x <;> simp only [ItAt] at y ⊢ <;> try exact y
  · obtain ⟨t, r, o, q, z⟩ := y; exact ⟨t, r, o, e _ q, z⟩
  · obtain ⟨a, r, o, q, z⟩ := y; exact ⟨a, r, o, e _ q, z⟩
  · obtain ⟨a, r, o, q, z⟩ := y; exact ⟨a, r, o, e _ q, z⟩
  · exact e _ y
  · obtain ⟨a, r, o, q, z⟩ := y; exact ⟨a, r, o, e _ q, z⟩

theorem itemsOf_lOf {x : SV} {l : List SV} (h : (∃ y, x = .lst y) ∨ ∃ y, x = .ref y) (e : itemsOf objs x = some l) : lOf objs x = some l := by
  rcases h with ⟨y, rfl⟩ | ⟨y, rfl⟩ <;> exact e

theorem rngSize_nonneg (a b c : Int) : 0 ≤ Builtin.Range.rangeSize a b c := by
  unfold Builtin.Range.rangeSize
  split
  · split
    · have := Int.ediv_nonneg (show 0 ≤ b - a - 1 by omega) (show 0 ≤ c by omega); omega
    · omega
  · split
    · have := Int.ediv_nonneg (show 0 ≤ a - b - 1 by omega) (show 0 ≤ -c by omega); omega
    · omega

theorem iter_start {x : SV} {v : Value} {l : List SV} {Q : Value → Shared → Prop} (I : InvH g os ad objs s) (r : Rep g os ad s.heap x v) (e : itemsOf objs x = some l) (hg : guardOf x l objs)
    (h : ∀ i s', Mono s s' → s.heap.get? i = none → (∃ o, s'.heap.get? i = some o) → ItAt x v i 0 s'.heap → Q (.ref i) s') : wpAny (model g.prog g.w) A (pyIter v) Q E s := by
  have hp : ∀ o : Obj, o.isFreed = false → ∀ Q' : Prop, (∀ s' : Shared, s' = { s with heap := s.heap.push o } → Mono s s' → s.heap.get? s.heap.objs.size = none → s'.heap.get? s.heap.objs.size = some o → Q') → Q' := fun o hf Q' k => by
    refine k _ rfl (Mono.push' _) ?_ (Heap.get?_push_size _ hf)
    cases q : s.heap.get? s.heap.objs.size with
    | none => rfl
    | some o' => exact absurd (Heap.lt_size q) (Nat.lt_irrefl _)
  have L : ∀ a vs n, v = .ref a → s.heap.get? a = some (lstObj vs n) → (∀ (i : Addr) (s' : Shared), (∃ a, v = .ref a ∧ s'.heap.IsListIter i a 0) → ItAt x v i 0 s'.heap) → wpAny (model g.prog g.w) A (pyIter v) Q E s := by
    rintro a vs n rfl h1 h2
    refine wpAny_pyIter_list (IsL_list h1) (hp { cls := .type "list_iterator", data := .fields #[.ref a, .int 0 0] } rfl _ fun s' es m n e => ?_)
    subst es
    exact h _ _ m n ⟨_, e⟩ (h2 _ _ ⟨a, rfl, _, e, rfl, rfl⟩)
  cases x <;> simp only [itemsOf] at e <;> try cases e
  · rename_i b
    obtain ⟨_, t, rfl⟩ := r
    refine KBw.pyIter_bytes (hp { cls := .type "bytes_iterator", data := .fields #[.bytes (bObj b) t, .int 0 0] } rfl _ fun s' es m n e => ?_)
    subst es
    exact h _ _ m n ⟨_, e⟩ ⟨t, rfl, _, e, rfl, rfl⟩
  · obtain ⟨a, vs, n, rfl, f, _⟩ := r
    refine wpAny_pyIter_tuple (items := vs.toArray) ⟨_, f.1, rfl, n, rfl⟩ (hp { cls := .type "tuple_iterator", data := .fields #[.ref a, .int 0 0] } rfl _ fun s' es m n e => ?_)
    subst es
    exact h _ _ m n ⟨_, e⟩ ⟨a, rfl, _, e, rfl, rfl⟩
  · obtain ⟨a, vs, n, e1, f, _⟩ := r
    exact L a vs n e1 f.1 fun i s' y => y
  · rename_i x0 x1 x2
    obtain ⟨a, t, u, w, rfl, f⟩ := r
    refine wpAny_pyIter_range f.1 hg (hp { cls := .type "range_iterator", data := .fields #[rawInt x0, rawInt (Builtin.Range.rangeSize x0 x1 x2), rawInt x2] } rfl _ fun s' es m n e => ?_)
    subst es
    refine h _ _ m n ⟨_, e⟩ ?_
    simp only [ItAt]
    have e0 : x0 + ((0 : Nat) : Int) * x2 = x0 := by simp
    have e1 : Builtin.Range.rangeSize x0 x1 x2 - ((0 : Nat) : Int) = Builtin.Range.rangeSize x0 x1 x2 := by simp
    rw [e0, e1]
    exact e
  · obtain ⟨a, vs, n, e1, h1, _⟩ := lOf_rep I r (itemsOf_lOf (.inr ⟨_, rfl⟩) e)
    exact L a vs n e1 h1 fun i s' y => y

theorem mod_same {i : Addr} {h' : Heap} {t : Nat} (hl : ∃ o, h'.get? i = some o) (m : Heap.SameBut i s.heap h') : ModI i s { s with heap := h', toks := t } := ⟨fun a o ha e => (m.2 a ha).trans e, fun _ => hl, rfl, rfl⟩
theorem mod_same' {i : Addr} {h' : Heap} (hl : ∃ o, h'.get? i = some o) (m : Heap.SameBut i s.heap h') : ModI i s { s with heap := h' } := ⟨fun a o ha e => (m.2 a ha).trans e, fun _ => hl, rfl, rfl⟩

theorem iter_next {x : SV} {v : Value} {l : List SV} {i : Addr} {k : Nat} {y : SV} {Q : Option Value → Shared → Prop} (I : InvH g os ad objs s) (hi : i ∈ os) (r : Rep g os ad s.heap x v) (e : itemsOf objs x = some l)
    (it : ItAt x v i k s.heap) (hk : l[k]? = some y)
    (h : ∀ w s', Rep g os ad s'.heap y w → ItAt x v i (k + 1) s'.heap → ModI i s s' → Q (some w) s') : wpAny (model g.prog g.w) A (pyNext (.ref i)) Q E s := by
  have L : ∀ a vs n, v = .ref a → s.heap.get? a = some (lstObj vs n) → RepL g os ad s.heap l vs → s.heap.IsListIter i a k → (∀ (s' : Shared), (∃ a, v = .ref a ∧ s'.heap.IsListIter i a (k + 1)) → ItAt x v i (k + 1) s'.heap) → wpAny (model g.prog g.w) A (pyNext (.ref i)) Q E s := by
    rintro a vs n rfl h1 h2 h3 h4
    obtain ⟨w, hw, rw'⟩ := h2.get k y hk
    refine wpAny_pyNext_list_item h3 (IsL_list h1) (x := w) (by simpa using hw) fun h' q m => ?_
    have mm : ModI i s { s with heap := h' } := mod_same' (let ⟨o, q, _⟩ := q; ⟨o, q⟩) m
    exact h w _ (rw'.stays (mm.step.stays (by simpa using hi))) (h4 _ ⟨a, rfl, q⟩) mm
  cases x <;> simp only [itemsOf] at e <;> try cases e
  · rename_i b
    obtain ⟨t, rfl, q⟩ := it
    obtain ⟨hb, t', ev⟩ := r
    cases ev
    simp only [List.getElem?_map, Option.map_eq_some_iff] at hk
    obtain ⟨z, hz, rfl⟩ := hk
    have hz' := hb z (List.mem_of_getElem? hz)
    refine KBw.next_item q (c := z.toUInt8) (by simp [bObj, hz]) fun h' q m => ?_
    have mm : ModI i s { s with heap := h', toks := s.toks + 1 } := mod_same (let ⟨o, q, _⟩ := q; ⟨o, q⟩) m
    refine h _ _ ⟨s.toks, ?_⟩ ⟨t, rfl, q⟩ mm
    have : z.toUInt8.toNat = z := by
      simp only [Nat.toUInt8_eq, UInt8.toNat_ofNat', Nat.reducePow]
      exact Nat.mod_eq_of_lt hz'
    rw [this]
  · obtain ⟨a, vs, n, rfl, f, q⟩ := r
    obtain ⟨a', ev, it⟩ := it
    cases ev
    obtain ⟨w, hw, rw'⟩ := q.get k y hk
    refine wpAny_pyNext_tuple_item it (items := vs.toArray) ⟨_, f.1, rfl, n, rfl⟩ (x := w) (by simpa using hw) fun h' q m => ?_
    have mm : ModI i s { s with heap := h' } := mod_same' (let ⟨o, q, _⟩ := q; ⟨o, q⟩) m
    exact h w _ (rw'.stays (mm.step.stays (by simpa using hi))) ⟨a, rfl, q⟩ mm
  · obtain ⟨a, vs, n, e1, f, q⟩ := r
    obtain ⟨a', ev, it⟩ := it
    rw [e1] at ev; cases ev
    exact L a vs n e1 f.1 q it fun s' y => y
  · rename_i a b c
    simp only [rngItems, List.getElem?_map, Option.map_eq_some_iff] at hk
    obtain ⟨z, hz, rfl⟩ := hk
    obtain ⟨hz1, hz2⟩ := List.getElem?_eq_some_iff.mp hz
    rw [List.getElem_range] at hz2
    subst hz2
    rw [List.length_range] at hz1
    simp only [ItAt] at it
    refine wpAny_pyNext_range_item it (by omega) fun h' q m => ?_
    have mm : ModI i s { s with heap := h', toks := s.toks + 1 } := mod_same ⟨_, q⟩ m
    refine h _ _ ⟨s.toks, rfl⟩ ?_ mm
    simp only [ItAt]
    have e1 : a + ((k + 1 : Nat) : Int) * c = a + (k : Int) * c + c := by
      rw [Int.natCast_add, Int.add_mul]; simp [Int.add_assoc]
    have e2 : Builtin.Range.rangeSize a b c - ((k + 1 : Nat) : Int) = Builtin.Range.rangeSize a b c - (k : Int) - 1 := by omega
    rw [e1, e2]
    exact q
  · obtain ⟨a, vs, n, e1, h1, h2⟩ := lOf_rep I r (itemsOf_lOf (.inr ⟨_, rfl⟩) e)
    obtain ⟨a', ev, it⟩ := it
    rw [e1] at ev; cases ev
    exact L a vs n e1 h1 h2 it fun s' y => y

theorem iter_end {x : SV} {v : Value} {l : List SV} {i : Addr} {Q : Option Value → Shared → Prop} (I : InvH g os ad objs s) (hh : A.handled = none) (r : Rep g os ad s.heap x v) (e : itemsOf objs x = some l)
    (it : ItAt x v i l.length s.heap) (h : ∀ s', (∀ a o, a ≠ i → s.heap.get? a = some o → s'.heap.get? a = some o) → s'.os = s.os ∧ s'.gens = s.gens → Q none s') : wpAny (model g.prog g.w) A (pyNext (.ref i)) Q E s := by
  have hE : ∀ h' : Heap, Heap.ExtBut i s.heap h' → Q none { s with heap := h' } := fun h' x => h _ (fun a o ha e => x a o ha e) ⟨rfl, rfl⟩
  have L : ∀ a vs n, v = .ref a → s.heap.get? a = some (lstObj vs n) → RepL g os ad s.heap l vs → s.heap.IsListIter i a l.length → wpAny (model g.prog g.w) A (pyNext (.ref i)) Q E s := by
    rintro a vs n rfl h1 h2 h3
    exact wpAny_pyNext_list_end hh h3 (IsL_list h1) (by simp [← h2.length]) hE
  cases x <;> simp only [itemsOf] at e <;> try cases e
  · obtain ⟨t, rfl, q⟩ := it
    refine KBw.next_end hh q ?_ hE
    simp [bObj]
  · obtain ⟨a, vs, n, rfl, f, q⟩ := r
    obtain ⟨a', ev, it⟩ := it
    cases ev
    exact wpAny_pyNext_tuple_end hh it (items := vs.toArray) ⟨_, f.1, rfl, n, rfl⟩ (by simp [← q.length]) hE
  · obtain ⟨a, vs, n, e1, f, q⟩ := r
    obtain ⟨a', ev, it⟩ := it
    rw [e1] at ev; cases ev
    exact L a vs n e1 f.1 q it
  · rename_i a b c
    simp only [ItAt] at it
    refine wpAny_pyNext_range_end hh it ?_ hE
    simp [rngItems]; have := rngSize_nonneg a b c; omega
  · obtain ⟨a, vs, n, e1, h1, h2⟩ := lOf_rep I r (itemsOf_lOf (.inr ⟨_, rfl⟩) e)
    obtain ⟨a', ev, it⟩ := it
    rw [e1] at ev; cases ev
    exact L a vs n e1 h1 h2 it
end
end Vc
end
section
open PySem PySem.W PyProof.Rows PySem.Calls
set_option maxRecDepth 10000
set_option autoImplicit false
set_option linter.unusedVariables false
namespace Vc

/-- the names behind the numbers -/
structure Nms where
  gn : Nat → Option Str
  fname : Nat → Str
  mname : Nat → Str

def bmName : BM → Str
  | .bitLength => "bit_length" | .toBytes => "to_bytes" | .fromBytes => "from_bytes" | .join => "join" | .append => "append" | .reverse => "reverse" | .pop => "pop"

def litOk : SV → Const → Bool
  | .none, .none => true
  | .bool b, .bool b' => b == b'
  | .int i, .int j => i == j
  | .str s, .str s' => s == s'
  | .bytes b, .bytes b' => b == b'.map UInt8.toNat
  | _, _ => false

abbrev Kd := Str → Option NameKind
def compOk (kd : Kd) (nm nm' : List (Str × Nat)) (sc : Scope) : Bool :=
  sc.kind == .function &&
  (sc.names.all fun p => p.2 != .cell && (p.2 != .local || sc.names.lookup p.1 == some .local) &&
    (p.2 != .free || ((nm.lookup p.1).isSome && (kd p.1 == some .cell || kd p.1 == some .free)))) &&
  (nm'.all fun p => nm'.lookup p.1 == some p.2 && ((sc.names.lookup p.1 == some .local && (nm.all fun q => q.2 != p.2)) || (sc.names.lookup p.1 == some .free && nm.lookup p.1 == some p.2))) &&
  decide ((nm'.map (·.2)).Nodup)

section
variable (N : Nms)
mutual
def ckE (kd : Kd) (nm : List (Str × Nat)) : X → Expr → Bool
  | .lit v, .Constant c _ _ => litOk v c
  | .var i, .Name id _ => nm.lookup id == some i && id != ("__debug__" : Str) && id != ("__classdict__" : Str)
  | .glob k, .Name id _ => kd id == some .globalImplicit && N.gn k == some id && id != ("__debug__" : Str)
  | .bin op a b, .BinOp l op' r _ => op == op' && ckE kd nm a l && ckE kd nm b r
  | .neg a, .UnaryOp .USub e _ => ckE kd nm a e
  | .not a, .UnaryOp .Not e _ => ckE kd nm a e
  | .bool op xs, .BoolOp op' es _ => op == op' && ckEs kd nm xs es
  | .cmp a op b, .Compare l [op'] [r] _ => op == op' && !behindInMarks op r && ckE kd nm a l && ckE kd nm b r
  | .cmp2 a o1 b o2 d, .Compare l [p1, p2] [r1, r2] _ => o1 == p1 && o2 == p2 && !behindInMarks o2 r2 && ckE kd nm a l && ckE kd nm b r1 && ckE kd nm d r2
  | .ife t a b, .IfExp te ae be _ => ckE kd nm t te && ckE kd nm a ae && ckE kd nm b be
  | .call f xs, .Call (.Name id p) es [] _ => noStar es && decide (es.length < 20) && ckE kd nm f (.Name id p) && ckEs kd nm xs es
  | .bmeth b o xs, .Call (.Attribute oe name apos) es [] pos => name == bmName b && notSuper oe && noStar es && decide (es.length < 20) && apos.endLine == pos.line && ckE kd nm o oe && ckEs kd nm xs es
  | .meth m o xs, .Call (.Attribute oe name apos) es [] pos => decide (m < 5) && name == N.mname m && notSuper oe && noStar es && decide (es.length < 20) && apos.endLine == pos.line && ckE kd nm o oe && ckEs kd nm xs es
  | .callA f o xs, .Call (.Attribute oe name apos) es [] pos => decide (f < 9) && name == N.fname f && notSuper oe && noStar es && decide (es.length < 20) && apos.endLine == pos.line && ckE kd nm o oe && ckEs kd nm xs es
  | .attr o f, .Attribute oe name _ => decide (f < 9) && name == N.fname f && notSuper oe && ckE kd nm o oe
  | .sub o i, .Subscript oe ie _ => ckE kd nm o oe && ckE kd nm i ie
  | .slice o lo hi, .Subscript oe (.Slice l h none _) _ => ckE kd nm o oe && ckO kd nm lo l && ckO kd nm hi h
  | .list _ xs, .List es _ => noStar es && ckEs kd nm xs es
  | .tup xs, .Tuple es _ _ => noStar es && decide (es.length < 20) && ckEs kd nm xs es
  | .comp _ nm' elt [i] iter cond, .ListComp ee [⟨.Name x _, ie, ifs, a⟩] sc _ =>
    a == 0 && compOk kd nm nm' sc && (nm'.all fun p => p.1 == x || sc.names.lookup p.1 == some .free) && nm'.lookup x == some i && sc.names.lookup x == some .local && ckE kd nm iter ie && ckE (fun y => sc.names.lookup y) nm' elt ee &&
      (match cond, ifs with
        | .nop, [] => true
        | t, [te] => ckE (fun y => sc.names.lookup y) nm' t te
        | _, _ => false)
  | _, _ => false
def ckO (kd : Kd) (nm : List (Str × Nat)) : X → Option Expr → Bool
  | .nop, none => true
  | x, some e => ckE kd nm x e
  | _, _ => false
def ckEs (kd : Kd) (nm : List (Str × Nat)) : Xs → List Expr → Bool
  | .nil, [] => true
  | .cons x r, e :: es => ckE kd nm x e && ckEs kd nm r es
  | _, _ => false
end
end
end Vc
end
section
open PySem PySem.W PyProof.Rows PySem.Calls
set_option maxRecDepth 10000
set_option autoImplicit false
set_option linter.unusedVariables false
namespace Vc

structure GOk (g : G) (N : Nms) (c : C) : Prop where
  glob : g.h₀.Ns mainGlobals g.mg
  blt : g.h₀.Ns builtinsNs g.mb
  nolim : g.h₀.NoLimit
  tabs₀ : ∀ a ∈ g.tabs, g.h₀.get? a = none
  names : ∀ k x, N.gn k = some x → ∃ v, (g.mg x = some v ∨ (g.mg x = none ∧ g.mb x = some v)) ∧ Rep g [] [] g.h₀ (c.gl k) v

def AOk (A : Around) (ℓ : Nat) : Prop := A.handled = none ∧ A.depth + ℓ < 900 ∧ A.units + 20 * ℓ < 9000
def KeepOk (M : Model) (h : Heap) (f : Value) : Prop := ∃ k, (k = Keeper.frame ∨ k = Keeper.machine ∨ k = Keeper.boundFrame) ∧ Looks M h (keeperOf f) k

/-- a call of something is what its contract says -/
def CallOk (g : G) (ℓ : Nat) (f : SV) (args : List SV) (objs : List AO) (K : SV → List AO → Prop) : Prop :=
  ∀ (A : Around) (os : List Addr) (ad : AD) (s : Shared) (fv : Value) (vals : List Value), AOk A ℓ → InvH g os ad objs s → Rep g os ad s.heap f fv → RepL g os ad s.heap args vals →
    KeepOk (model g.prog g.w) s.heap fv ∧ ∀ (Q E : Value → Shared → Prop), (∀ v r objs' ad' s', K r objs' → Rep g os ad' s'.heap r v → InvH g os ad' objs' s' → Step g [] ad s ad' s' → Q v s') → wpAny (model g.prog g.w) A (call fv vals) Q E s

structure SpOk (g : G) (N : Nms) (c : C) (ℓ : Nat) : Prop where
  mi : ∀ m, c.mi m < 1000
  fn : ∀ k args objs K, k < 1000 → c.sp k args objs K → CallOk g ℓ (.fn k) args objs K
  clo : ∀ k caps args objs K, k < 10 → c.sp (2000 + 10 * caps.length + k) (caps ++ args) objs K → CallOk g ℓ (.clo k caps) args objs K
  cls : ∀ k args objs K, k < 10 → c.sp (1000 + k) args objs K → CallOk g ℓ (.cls k) args objs K
  meth : ∀ (m : Nat), m < 5 → ∀ (A : Around) (os : List Addr) (ad : AD) (objs : List AO) (s : Shared) (a d : Addr) (es : List DictEntry) (n : Nat) (pl : Sem Bool) (Q : Value × List Value → Shared → Prop) (E : Value → Shared → Prop), InvH g os ad objs s →
    s.heap.get? a = some ⟨.ref (g.caddr (c.mc m)), some d, .plain, #[]⟩ → s.heap.get? d = some (dictOf es n) → (∀ e ∈ es, ∃ j t, e.key = .str (N.fname j) t) →
    Q (.ref (g.faddr (c.mi m)), [.ref a]) s → wpAny (model g.prog g.w) A (getMethod (.ref a) (N.mname m) pl) Q E s
  attr : ∀ (f : Nat), f < 9 → ∀ (A : Around) (os : List Addr) (ad : AD) (objs : List AO) (s : Shared) (k : Nat) (a d : Addr) (es : List DictEntry) (n : Nat) (v : Value) (Q : Value → Shared → Prop) (E : Value → Shared → Prop), InvH g os ad objs s →
    s.heap.get? a = some ⟨.ref (g.caddr k), some d, .plain, #[]⟩ → s.heap.get? d = some (dictOf es n) → getL (N.fname f) es = some (some v) → handedIn v = true →
    Q v { s with toks := s.toks + 1 } → wpAny (model g.prog g.w) A (getAttr (.ref a) (N.fname f) true) Q E s
  seta : ∀ (f : Nat), f < 9 → ∀ (A : Around) (os : List Addr) (ad : AD) (objs : List AO) (s : Shared) (k : Nat) (a d : Addr) (es : List DictEntry) (n : Nat) (v : Value) (Q : Unit → Shared → Prop) (E : Value → Shared → Prop), InvH g os ad objs s →
    s.heap.get? a = some ⟨.ref (g.caddr k), some d, .plain, #[]⟩ → s.heap.get? d = some (dictOf es n) → (getL (N.fname f) es).isSome = true → es.length ≤ 100 →
    (∀ t h' tk n', (∀ b o, b ≠ d → s.heap.get? b = some o → h'.get? b = some o) → h'.get? d = some (dictOf (putL (N.fname f) (PyData.keyHash g.w.params (N.fname f)) (.str (N.fname f) t) v es) n') → Q () { s with heap := h', toks := tk }) →
    wpAny (model g.prog g.w) A (setAttr (.ref a) (N.fname f) v) Q E s
  methA : ∀ (f : Nat), f < 9 → ∀ (A : Around) (os : List Addr) (ad : AD) (objs : List AO) (s : Shared) (k : Nat) (a d : Addr) (es : List DictEntry) (n : Nat) (v : Value) (pl : Sem Bool) (Q : Value × List Value → Shared → Prop) (E : Value → Shared → Prop), InvH g os ad objs s →
    s.heap.get? a = some ⟨.ref (g.caddr k), some d, .plain, #[]⟩ → s.heap.get? d = some (dictOf es n) → getL (N.fname f) es = some (some v) → handedIn v = true →
    (∀ t, Q (v, []) { s with toks := t }) → wpAny (model g.prog g.w) A (getMethod (.ref a) (N.fname f) pl) Q E s

def KdOk (env : Env) (kd : Kd) : Prop := ∀ x, (kd x = some .globalImplicit → env.kindOf x = some .globalImplicit) ∧ (kd x = some .local → env.kindOf x = some .local) ∧
  ((kd x = some .cell ∨ kd x = some .free) → env.kindOf x = some .cell ∨ env.kindOf x = some .free)

section
variable {g : G} {N : Nms} {c : C} {ℓ : Nat}

/-- what an expression's evaluation hands on -/
abbrev PostE (g : G) (os own : List Addr) (env : Env) (nm : List (Str × Nat)) (wr : Str → Bool) (ad : AD) (s : Shared) (K : SV → St → Prop) (Q : Value → Shared → Prop) : Prop :=
  ∀ v r ad' σ' s', K r σ' → Rep g os ad' s'.heap r v → Inv g os own env nm wr ad' σ' s' → Step g [] ad s ad' s' → Q v s'
abbrev PostL (n : Nat) (g : G) (os own : List Addr) (env : Env) (nm : List (Str × Nat)) (wr : Str → Bool) (ad : AD) (s : Shared) (K : List SV → St → Prop) (Q : List Value → Shared → Prop) : Prop :=
  ∀ v r ad' σ' s', K r σ' → RepL g os ad' s'.heap r v → Inv g os own env nm wr ad' σ' s' → Step g [] ad s ad' s' → v.length = n → Q v s'
abbrev PostT (g : G) (os own : List Addr) (env : Env) (nm : List (Str × Nat)) (wr : Str → Bool) (ad : AD) (s : Shared) (K : Bool → St → Prop) (Q : Bool → Shared → Prop) : Prop :=
  ∀ b ad' σ' s', K b σ' → Inv g os own env nm wr ad' σ' s' → Step g [] ad s ad' s' → Q b s'

def TrE (g : G) (N : Nms) (c : C) (ℓ : Nat) (W : St → (SV → St → Prop) → Prop) (env : Env) (nm : List (Str × Nat)) (t : Sem Value) : Prop :=
  ∀ os own wr A ad σ s K Q E, AOk A ℓ → Inv g os own env nm wr ad σ s → W σ K → PostE g os own env nm wr ad s K Q → wpAny (model g.prog g.w) A t Q E s
def TrL (n : Nat) (g : G) (N : Nms) (c : C) (ℓ : Nat) (W : St → (List SV → St → Prop) → Prop) (env : Env) (nm : List (Str × Nat)) (t : Sem (List Value)) : Prop :=
  ∀ os own wr A ad σ s K Q E, AOk A ℓ → Inv g os own env nm wr ad σ s → W σ K → PostL n g os own env nm wr ad s K Q → wpAny (model g.prog g.w) A t Q E s
def TrT (g : G) (N : Nms) (c : C) (ℓ : Nat) (W : St → (Bool → St → Prop) → Prop) (env : Env) (nm : List (Str × Nat)) (t : Sem Bool) : Prop :=
  ∀ os own wr A ad σ s K Q E, AOk A ℓ → Inv g os own env nm wr ad σ s → W σ K → PostT g os own env nm wr ad s K Q → wpAny (model g.prog g.w) A t Q E s

variable {env : Env} {nm : List (Str × Nat)} {os own : List Addr} {wr : Str → Bool} {ad ad' ad'' : AD} {σ σ' σ'' : St} {s s' s'' : Shared} {A : Around} {E : Value → Shared → Prop} {Q : Value → Shared → Prop}

theorem Inv.sts (I : Inv g os own env nm wr ad σ s) (S : Step g [] ad s ad' s') : Stays g os ad s.heap os ad' s'.heap := S.stays (by simp)
theorem Inv.stp (I : Inv g os own env nm wr ad σ s) (I' : Inv g os own env nm wr ad' σ' s') (S : Step g [] ad s ad' s') (S' : Step g [] ad' s' ad'' s'') : Step g [] ad s ad'' s'' := S.trans I.H (by simp) I'.H S'
/-- objects and heap are another's, variables the same -/
theorem Inv.objs {objs' : List AO} (I : Inv g os own env nm wr ad σ s) (H : InvH g os ad' objs' s') (S : Step g [] ad s ad' s') : Inv g os own env nm wr ad' ⟨σ.vars, objs'⟩ s' :=
  ⟨H, I.F.step I.H S (by simp) (by simp)⟩
theorem Inv.same (I : Inv g os own env nm wr ad σ s) (m : Mono s s') : Inv g os own env nm wr ad ⟨σ.vars, σ.objs⟩ s' := I.mono m

theorem TrE.mono {W W' : St → (SV → St → Prop) → Prop} {t : Sem Value} (h : TrE g N c ℓ W env nm t) (hw : ∀ σ K, W' σ K → W σ K) : TrE g N c ℓ W' env nm t :=
  fun os own wr A ad σ s K Q E hA I w => h os own wr A ad σ s K Q E hA I (hw σ K w)

theorem tr_lit {v : SV} {k : Const} {kk : Nat} {pos : Pos} (h : litOk v k = true) : TrE g N c ℓ (fun σ K => K v σ) env nm (eval (.Constant k kk pos) env) := by
  intro os own wr A ad σ s K Q E hA I w post
  rw [arm_eval_Constant]
  unfold litOk at h
  split at h
  · exact wpAny_pure (post _ _ _ _ _ w rfl I Step.refl)
  · have e := eq_of_beq h
    subst e
    exact wpAny_pure (post _ _ _ _ _ w rfl I Step.refl)
  · have e := eq_of_beq h
    subst e
    exact wpAny_mkInt (post _ _ _ _ _ w ⟨_, rfl⟩ (I.mono Mono.tok) Mono.tok.step)
  · have e := eq_of_beq h
    subst e
    exact fun _ _ _ => post _ _ _ _ _ w ⟨_, rfl⟩ (I.mono Mono.tok) Mono.tok.step
  · have e := eq_of_beq h
    subst e
    rename_i b
    refine fun _ _ _ => post _ _ _ _ _ w ⟨?_, s.toks, ?_⟩ (I.mono Mono.tok) Mono.tok.step
    · intro x hx
      obtain ⟨u, _, rfl⟩ := List.mem_map.mp hx
      exact u.toNat_lt
    · simp [bObj, List.map_map, Function.comp_def]
  · cases h

theorem tr_var {i : Nat} {id : Str} {pos : Pos} (h : nm.lookup id = some i) (hd : (id == ("__debug__" : Str)) = false) (hd2 : (id == ("__classdict__" : Str)) = false) :
    TrE g N c ℓ (fun σ K => match σ.vars[i]? with | some .unb => False | some v => K v σ | none => False) env nm (eval (.Name id pos) env) := by
  intro os own wr A ad σ s K Q E hA I w post
  cases hv : σ.vars[i]? with
  | none => simp only [hv] at w
  | some x =>
    have w' : x ≠ .unb ∧ K x σ := by
      simp only [hv] at w
      cases x <;> first | exact w.elim | exact ⟨by simp, w⟩
    obtain ⟨hx, w⟩ := w'
    refine wpAny_Name ?_ hd
    by_cases hk : env.kindOf id = some .local
    · obtain ⟨m, hn, hm⟩ := I.F.ns
      rcases hm id i h hk x hv with hr | ⟨v, e, r⟩
      · exact (hx hr).elim
      · exact wpAny_loadName_local I.F.kind hk hn e (post _ _ _ _ _ w r I Step.refl)
    · obtain ⟨hk', cc, ov, h1, h2, h3, _⟩ := I.F.cells id i h hk
      rcases h3 x hv with hr | ⟨v, e, r⟩
      · exact (hx hr).elim
      · rw [e] at h2
        rcases hk' with hk' | hk'
        · exact wpAny_loadName_cell I.F.kind hk' h1 h2 (post _ _ _ _ _ w r I Step.refl)
        · exact wpAny_loadName_free I.F.kind hk' h1 h2 (post _ _ _ _ _ w r I Step.refl) hd2

theorem glob_rep (G0 : GOk g N c) (I : InvH g os ad σ.objs s) {k : Nat} {x : SV} {v : Value} (r : Rep g [] [] g.h₀ x v) : Rep g os ad s.heap x v := r.stays (I.stays₀ G0.tabs₀)

theorem tr_glob (G0 : GOk g N c) {k : Nat} {id : Str} {pos : Pos} (hk : env.kindOf id = some .globalImplicit) (h : N.gn k = some id) (hd : (id == ("__debug__" : Str)) = false) :
    TrE g N c ℓ (fun σ K => K (c.gl k) σ) env nm (eval (.Name id pos) env) := by
  intro os own wr A ad σ s K Q E hA I w post
  obtain ⟨v, hv, r⟩ := G0.names k id h
  have fin := post _ _ _ _ _ w (r.stays (I.H.stays₀ G0.tabs₀)) I Step.refl
  refine Calls.Name_function_global I.F.kind hk ?_ hd
  rcases hv with hv | ⟨hn, hv⟩
  · exact loadGlobal_global (mg := g.mg) (by rw [I.F.glob]; exact G0.glob.keeps I.H.base) hv fin
  · exact loadGlobal_builtin (mg := g.mg) (mb := g.mb) (by rw [I.F.glob]; exact G0.glob.keeps I.H.base) hn (by rw [I.F.blt]; exact G0.blt.keeps I.H.base) hv fin

theorem tr_bin {op : Operator} {Wa Wb : St → (SV → St → Prop) → Prop} {l r : Expr} {pos : Pos} (ha : TrE g N c ℓ Wa env nm (eval l env)) (hb : TrE g N c ℓ Wb env nm (eval r env)) :
    TrE g N c ℓ (fun σ K => Wa σ fun va σ1 => Wb σ1 fun vb σ2 => binW op va vb σ2.objs fun r => K r σ2) env nm (eval (.BinOp l op r pos) env) := by
  intro os own wr A ad σ s K Q E hA I w post
  refine wpAny_BinOp (ha os own wr A ad σ s _ _ E hA I w fun va a ad1 σ1 s1 w1 ra I1 S1 => ?_)
  refine hb os own wr A ad1 σ1 s1 _ _ E hA I1 w1 fun vb b ad2 σ2 s2 w2 rb I2 S2 => ?_
  have S := I.stp I1 S1 S2
  refine binOk I2.H (ra.stays (I1.sts S2)) rb w2 fun v x s3 k rx m => ?_
  exact post _ _ _ _ _ k rx (I2.same m) (I.stp I2 S m.step)

theorem tr_neg {Wa : St → (SV → St → Prop) → Prop} {e : Expr} {pos : Pos} (ha : TrE g N c ℓ Wa env nm (eval e env)) :
    TrE g N c ℓ (fun σ K => Wa σ fun va σ1 => match va with | .int i => K (.int (-i)) σ1 | _ => False) env nm (eval (.UnaryOp .USub e pos) env) := by
  intro os own wr A ad σ s K Q E hA I w post
  refine wpAny_UnaryOp (ha os own wr A ad σ s _ _ E hA I w fun va a ad1 σ1 s1 w1 ra I1 S1 => ?_)
  split at w1
  · obtain ⟨t, rfl⟩ := ra
    exact neg_int (post _ _ _ _ _ w1 ⟨_, rfl⟩ (I1.mono Mono.tok) (I.stp I1 S1 Mono.tok.step))
  · exact w1.elim

theorem tr_not {Wa : St → (SV → St → Prop) → Prop} {e : Expr} {pos : Pos} (ha : TrE g N c ℓ Wa env nm (eval e env)) :
    TrE g N c ℓ (fun σ K => Wa σ fun va σ1 => truW va σ1.objs fun b => K (.bool (!b)) σ1) env nm (eval (.UnaryOp .Not e pos) env) := by
  intro os own wr A ad σ s K Q E hA I w post
  refine wpAny_UnaryOp (ha os own wr A ad σ s _ _ E hA I w fun va a ad1 σ1 s1 w1 ra I1 S1 => ?_)
  refine not_of (truOk I1.H ra w1 fun b s2 k m => ?_)
  exact post _ _ _ _ _ k rfl (I1.same m) (I.stp I1 S1 m.step)

theorem tr_cmp {op : CmpOp} {Wa Wb : St → (SV → St → Prop) → Prop} {l r : Expr} {pos : Pos} (hm : behindInMarks op r = false) (ha : TrE g N c ℓ Wa env nm (eval l env)) (hb : TrE g N c ℓ Wb env nm (eval r env)) :
    TrE g N c ℓ (fun σ K => Wa σ fun va σ1 => Wb σ1 fun vb σ2 => cmpW op va vb σ2.objs fun r => K r σ2) env nm (eval (.Compare l [op] [r] pos) env) := by
  intro os own wr A ad σ s K Q E hA I w post
  refine wpAny_Compare1 (ha os own wr A ad σ s _ _ E hA I w fun va a ad1 σ1 s1 w1 ra I1 S1 => ?_) hm
  refine hb os own wr A ad1 σ1 s1 _ _ E hA I1 w1 fun vb b ad2 σ2 s2 w2 rb I2 S2 => ?_
  have S := I.stp I1 S1 S2
  refine cmpOk I2.H (ra.stays (I1.sts S2)) rb w2 fun v x s3 k rx m => ?_
  exact post _ _ _ _ _ k rx (I2.same m) (I.stp I2 S m.step)

theorem tr_tcmp {op : CmpOp} {Wa Wb : St → (SV → St → Prop) → Prop} {l r : Expr} {pos : Pos} {whole : Sem Value} (hm : behindInMarks op r = false) (ha : TrE g N c ℓ Wa env nm (eval l env)) (hb : TrE g N c ℓ Wb env nm (eval r env)) :
    TrT g N c ℓ (fun σ K => Wa σ fun va σ1 => Wb σ1 fun vb σ2 => cmpW op va vb σ2.objs fun r => match r with | .bool z => K z σ2 | _ => False) env nm (isTrue (.Compare l [op] [r] pos) env whole) := by
  intro os own wr A ad σ s K Q E hA I w post
  refine wpAny_isTrue_Compare1 (ha os own wr A ad σ s _ _ E hA I w fun va a ad1 σ1 s1 w1 ra I1 S1 => ?_) hm
  refine hb os own wr A ad1 σ1 s1 _ _ E hA I1 w1 fun vb b ad2 σ2 s2 w2 rb I2 S2 => ?_
  have S := I.stp I1 S1 S2
  refine cmpOk I2.H (ra.stays (I1.sts S2)) rb w2 fun v x s3 k rx m => ?_
  split at k
  · cases rx
    exact wpAny_truthy_bool (post _ _ _ _ k (I2.same m) (I.stp I2 S m.step))
  · exact k.elim

theorem tr_ife {Wt : St → (Bool → St → Prop) → Prop} {Wa Wb : St → (SV → St → Prop) → Prop} {t a b : Expr} {pos : Pos} (ht : TrT g N c ℓ Wt env nm (isTrue t env (eval t env))) (ha : TrE g N c ℓ Wa env nm (eval a env)) (hb : TrE g N c ℓ Wb env nm (eval b env)) :
    TrE g N c ℓ (fun σ K => Wt σ fun z σ1 => if z then Wa σ1 K else Wb σ1 K) env nm (eval (.IfExp t a b pos) env) := by
  intro os own wr A ad σ s K Q E hA I w post
  refine wpAny_IfExp (ht os own wr A ad σ s _ _ E hA I w fun z ad1 σ1 s1 w1 I1 S1 => ?_)
  cases z with
  | true => exact ha os own wr A ad1 σ1 s1 _ _ E hA I1 w1 fun v r ad2 σ2 s2 k r2 I2 S2 => post _ _ _ _ _ k r2 I2 (I.stp I1 S1 S2)
  | false => exact hb os own wr A ad1 σ1 s1 _ _ E hA I1 w1 fun v r ad2 σ2 s2 k r2 I2 S2 => post _ _ _ _ _ k r2 I2 (I.stp I1 S1 S2)

theorem tr_tnot {Wa : St → (Bool → St → Prop) → Prop} {e : Expr} {pos : Pos} {whole : Sem Value} (ha : TrT g N c ℓ Wa env nm (isTrue e env (eval e env))) :
    TrT g N c ℓ (fun σ K => Wa σ fun b σ1 => K (!b) σ1) env nm (isTrue (.UnaryOp .Not e pos) env whole) := by
  intro os own wr A ad σ s K Q E hA I w post
  rw [arm_isTrue_UnaryOp]
  exact wpAny_bind (ha os own wr A ad σ s _ _ E hA I w fun z ad1 σ1 s1 w1 I1 S1 => wpAny_pure (post _ _ _ _ w1 I1 S1))

theorem tr_tife {Wt Wa Wb : St → (Bool → St → Prop) → Prop} {t a b : Expr} {pos : Pos} {whole : Sem Value} (ht : TrT g N c ℓ Wt env nm (isTrue t env (eval t env))) (ha : TrT g N c ℓ Wa env nm (isTrue a env (eval a env))) (hb : TrT g N c ℓ Wb env nm (isTrue b env (eval b env))) :
    TrT g N c ℓ (fun σ K => Wt σ fun z σ1 => if z then Wa σ1 K else Wb σ1 K) env nm (isTrue (.IfExp t a b pos) env whole) := by
  intro os own wr A ad σ s K Q E hA I w post
  rw [arm_isTrue_IfExp]
  refine wpAny_bind (ht os own wr A ad σ s _ _ E hA I w fun z ad1 σ1 s1 w1 I1 S1 => ?_)
  cases z with
  | true => exact ha os own wr A ad1 σ1 s1 _ _ E hA I1 w1 fun v ad2 σ2 s2 k I2 S2 => post _ _ _ _ k I2 (I.stp I1 S1 S2)
  | false => exact hb os own wr A ad1 σ1 s1 _ _ E hA I1 w1 fun v ad2 σ2 s2 k I2 S2 => post _ _ _ _ k I2 (I.stp I1 S1 S2)

theorem tr_truthy {W : St → (SV → St → Prop) → Prop} {t : Sem Value} {pos : Pos} (h : TrE g N c ℓ W env nm t) :
    TrT g N c ℓ (fun σ K => W σ fun v σ1 => truW v σ1.objs fun b => K b σ1) env nm (do let v ← t; standAt pos; holding [v] (truthy v)) := by
  intro os own wr A ad σ s K Q E hA I w post
  refine wpAny_bind (h os own wr A ad σ s _ _ E hA I w fun v r ad1 σ1 s1 w1 ra I1 S1 => wpAny_bind (wpAny_standAt (wpAny_holding ?_)))
  exact truOk I1.H ra w1 fun b s2 k m => post _ _ _ _ k (I1.same m) (I.stp I1 S1 m.step)

theorem tr_nil : TrL 0 g N c ℓ (fun σ K => K [] σ) env nm (spliced []) := by
  intro os own wr A ad σ s K Q E hA I w post
  exact spliced_nil (post _ _ _ _ _ w RepL.nil I Step.refl rfl)
theorem tr_cons {W : St → (SV → St → Prop) → Prop} {Wr : St → (List SV → St → Prop) → Prop} {t : Sem Value} {rest : List (Bool × Sem Value)} {n : Nat} (h : TrE g N c ℓ W env nm t) (hr : TrL n g N c ℓ Wr env nm (spliced rest)) :
    TrL (n + 1) g N c ℓ (fun σ K => W σ fun v σ1 => Wr σ1 fun vs σ2 => K (v :: vs) σ2) env nm (spliced ((false, t) :: rest)) := by
  intro os own wr A ad σ s K Q E hA I w post
  refine spliced_cons (h os own wr A ad σ s _ _ E hA I w fun v r ad1 σ1 s1 w1 r1 I1 S1 => ?_)
  refine hr os own wr A ad1 σ1 s1 _ _ E hA I1 w1 fun vs rs ad2 σ2 s2 w2 r2 I2 S2 hz => ?_
  exact post _ _ _ _ _ w2 (RepL.cons (r1.stays (I1.sts S2)) r2) I2 (I.stp I1 S1 S2) (by simp [hz])
end
end Vc
end
section
open PySem PySem.W PyProof.Rows PySem.Calls
set_option maxRecDepth 10000
set_option autoImplicit false
set_option linter.unusedVariables false
namespace Vc
section
variable {g : G} {N : Nms} {c : C} {ℓ : Nat} {env : Env} {nm : List (Str × Nat)} {os own : List Addr} {wr : Str → Bool} {ad ad' ad'' : AD} {σ σ' σ'' : St} {s s' s'' : Shared} {A : Around} {E : Value → Shared → Prop} {Q : Value → Shared → Prop} {objs objs' : List AO}

/-- a fresh list becomes a thing that changes -/
theorem InvH.adopt {a : Addr} {l : List SV} {vs : List Value} {n : Nat} (I : InvH g (a :: os) ad objs s) (ho : a ∉ os) (e : s.heap.get? a = some (lstObj vs n)) (r : RepL g (a :: os) ad s.heap l vs) :
    InvH g os (ad ++ [(a, none)]) (objs ++ [.list l]) s ∧ Stays g (a :: os) ad s.heap os (ad ++ [(a, none)]) s.heap := by
  have na : a ∉ adr ad := I.ap1 a (by simp)
  have nt : a ∉ g.tabs := fun q => (I.ap2 a q).1 (by simp)
  have e1 : adr (ad ++ [(a, none)]) = adr ad ++ [a] := by simp [adr]
  have mtl : ∀ b, b ∈ mt g os (ad ++ [(a, none)]) ↔ b ∈ mt g (a :: os) ad := fun b => by
    simp only [mem_mt, e1, List.mem_append, List.mem_cons, List.not_mem_nil, or_false]
    constructor
    · rintro (h | (h | h) | h)
      · exact .inl (.inr h)
      · exact .inr (.inl h)
      · exact .inl (.inl h)
      · exact .inr (.inr h)
    · rintro ((h | h) | h | h)
      · exact .inr (.inl (.inr h))
      · exact .inl h
      · exact .inr (.inl (.inl h))
      · exact .inr (.inr h)
  have st : Stays g (a :: os) ad s.heap os (ad ++ [(a, none)]) s.heap := by
    refine ⟨fun b o ⟨q, n⟩ => ⟨q, fun hm => n ((mtl b).mp hm)⟩, fun i p hp => ?_⟩
    rw [List.getElem?_append_left (List.getElem?_eq_some_iff.mp hp).1]; exact hp
  refine ⟨⟨I.base, fun b hb => I.fresh₀ b ((mtl b).mp hb), fun b hb => I.live b (by simp [hb]), ?_, ?_, ?_, fun a ha => let ⟨o, e, t⟩ := I.tabs a ha; ⟨o, e, t.stays st⟩, ?_, ?_⟩, st⟩
  · rw [e1, List.nodup_append]
    exact ⟨I.nodup, by simp, fun x hx y hy => by simp at hy; subst hy; rintro rfl; exact na hx⟩
  · intro b hb
    rw [e1, List.mem_append]
    rintro (h | h)
    · exact I.ap1 b (by simp [hb]) h
    · simp at h; subst h; exact ho hb
  · intro b hb
    refine ⟨fun h => (I.ap2 b hb).1 (by simp [h]), ?_⟩
    rw [e1, List.mem_append]
    rintro (h | h)
    · exact (I.ap2 b hb).2 h
    · simp at h; subst h; exact nt hb
  · simp [I.objs.1]
  · intro i o p h1 h2
    by_cases hi : i < objs.length
    · rw [List.getElem?_append_left hi] at h1
      rw [List.getElem?_append_left (by rw [I.objs.1]; exact hi)] at h2
      exact (I.objs.2 i o p h1 h2).stays st fun b _ o q => q
    · have h3 : i = objs.length := by
        have := (List.getElem?_eq_some_iff.mp h1).1
        simp at this; omega
      subst h3
      rw [List.getElem?_append_right (Nat.le_refl _)] at h1
      simp at h1
      subst h1
      rw [← I.objs.1, List.getElem?_append_right (Nat.le_refl _)] at h2
      simp at h2
      subst h2
      exact ⟨rfl, vs, n, e, r.stays st⟩

/-- a made list, by either road -/
theorem mkOk {mu : Bool} {l : List SV} {vs : List Value} {n : Nat} {a : Addr} {K : SV → List AO → Prop} (I : InvH g (a :: os) ad objs s) (ho : a ∉ os) (e : s.heap.get? a = some (lstObj vs n)) (r : RepL g (a :: os) ad s.heap l vs) (w : mkW mu l objs K) :
    ∃ x ad' objs', K x objs' ∧ Rep g os ad' s.heap x (.ref a) ∧ InvH g os ad' objs' s ∧ (∀ (s₀ : Shared) (own : List Addr) (ad₀ : AD), s₀.heap.get? a = none → Step g own ad₀ s₀ ad s → Step g own ad₀ s₀ ad' s) ∧ Stays g (a :: os) ad s.heap os ad' s.heap ∧ (∀ b, b ∈ adr ad' → b ∈ adr ad ∨ b = a) := by
  unfold mkW at w
  obtain ⟨_, w⟩ := w
  cases mu with
  | true =>
    obtain ⟨H, st⟩ := I.adopt ho e r
    refine ⟨_, _, _, w, ⟨(a, none), ?_, rfl⟩, H, fun s₀ own ad₀ hf S => ?_, st, fun b hb => by rw [adr_append, List.mem_append] at hb; exact hb.imp id (fun q => by simpa [adr] using q)⟩
    · rw [← I.objs.1, List.getElem?_append_right (Nat.le_refl _)]; simp
    · obtain ⟨e0, rfl, he⟩ := S.ext
      refine ⟨⟨e0 ++ [(a, none)], by simp, fun b hb => ?_⟩, S.keep, S.rest⟩
      rw [adr_append, List.mem_append] at hb
      rcases hb with hb | hb
      · exact he b hb
      · simp [adr] at hb; subst hb; exact hf
  | false =>
    refine ⟨_, ad, objs, w, ⟨a, vs, n, rfl, ⟨e, ?_⟩, r.stays (Stays.shrink (new := [a]))⟩, I.shrink (new := [a]), fun s₀ own ad₀ hf S => S, Stays.shrink (new := [a]), fun b hb => .inl hb⟩
    rw [mem_mt]
    rintro (h | h | h)
    · exact ho h
    · exact I.ap1 a (by simp) h
    · exact (I.ap2 a h).1 (by simp)

theorem not_in_os (I : InvH g os ad objs s) {a : Addr} (h : s.heap.get? a = none) : a ∉ os := fun hm => by
  obtain ⟨o, e⟩ := I.live a hm
  rw [h] at e; cases e

theorem newList_ok {mu : Bool} {l : List SV} {vs : List Value} {K : SV → List AO → Prop} (I : InvH g os ad objs s) (r : RepL g os ad s.heap l vs) (w : mkW mu l objs K) :
    ∃ x ad' objs', K x objs' ∧ Rep g os ad' (s.heap.push (lstObj vs 0)) x (.ref s.heap.objs.size) ∧ InvH g os ad' objs' { s with heap := s.heap.push (lstObj vs 0) } ∧ Step g [] ad s ad' { s with heap := s.heap.push (lstObj vs 0) } := by
  have m : Mono s { s with heap := s.heap.push (lstObj vs 0) } := Mono.push' _
  have hf : s.heap.get? s.heap.objs.size = none := by
    cases q : s.heap.get? s.heap.objs.size with
    | none => rfl
    | some o => exact absurd (Heap.lt_size q) (Nat.lt_irrefl _)
  have he : (s.heap.push (lstObj vs 0)).get? s.heap.objs.size = some (lstObj vs 0) := Heap.get?_push_size _ rfl
  have I' := I.grow (new := [s.heap.objs.size]) m (by simpa using hf) (by simpa using ⟨_, he⟩)
  obtain ⟨x, ad', objs', k, rx, H, st, _⟩ := mkOk (s := { s with heap := s.heap.push (lstObj vs 0) }) I' (not_in_os I hf) he (r.stays (Stays.grow (new := [s.heap.objs.size]) m (by simpa using hf))) w
  exact ⟨x, ad', objs', k, rx, H, st s [] ad hf m.step⟩

theorem wl {vs : List Value} {l : List SV} {h : Heap} (r : RepL g os ad h l vs) (hl : l.length ≤ lim) : vs.length ≤ sizeLine := by
  rw [r.length, sizeLine_eq]; simp only [lim] at hl; omega

theorem tr_list {mu : Bool} {Wr : St → (List SV → St → Prop) → Prop} {es : List Expr} {pos : Pos} (hn : noStar es = true) (hr : TrL es.length g N c ℓ Wr env nm (spliced (es.map fun e => (false, eval e env)))) :
    TrE g N c ℓ (fun σ K => Wr σ fun vs σ1 => mkW mu vs σ1.objs fun r objs => K r ⟨σ1.vars, objs⟩) env nm (eval (.List es pos) env) := by
  intro os own wr A ad σ s K Q E hA I w post
  refine wpAny_List_spliced ?_
  rw [star_of pos env hn]
  refine hr os own wr A ad σ s _ _ E hA I w fun vs l ad1 σ1 s1 w1 r1 I1 S1 hz => ⟨wl r1 w1.1, ?_⟩
  obtain ⟨x, ad2, objs2, k, rx, H, S2⟩ := newList_ok I1.H r1 w1
  have I2 := I1.objs H S2
  exact post _ _ _ _ _ k rx I2 (I.stp I1 S1 S2)

theorem tr_tup {Wr : St → (List SV → St → Prop) → Prop} {es : List Expr} {kk : Nat} {pos : Pos} (hn : noStar es = true) (hlen : es.length < 20) (hr : TrL es.length g N c ℓ Wr env nm (spliced (es.map fun e => (false, eval e env)))) :
    TrE g N c ℓ (fun σ K => Wr σ fun vs σ1 => K (.tup vs) σ1) env nm (eval (.Tuple es kk pos) env) := by
  intro os own wr A ad σ s K Q E hA I w post
  refine wpAny_Tuple_spliced ?_
  rw [star_of pos env hn]
  refine hr os own wr A ad σ s _ _ E hA I w fun vs l ad1 σ1 s1 w1 r1 I1 S1 hz => ⟨by rw [hz, sizeLine_eq]; omega, ?_⟩
  have m : Mono s1 { s1 with heap := s1.heap.push (tupObj vs 0) } := Mono.push' _
  exact post _ _ _ _ _ w1 ⟨_, vs, 0, rfl, fz_push I1.H rfl, r1.stays m.stays⟩ (I1.mono m) (I.stp I1 S1 m.step)

theorem tr_sub {Wo Wi : St → (SV → St → Prop) → Prop} {o i : Expr} {pos : Pos} (hs : ∀ a b : Value, subscripted i false a b = operate [a, b] (getItem a b)) (ho : TrE g N c ℓ Wo env nm (eval o env)) (hi : TrE g N c ℓ Wi env nm (eval i env)) :
    TrE g N c ℓ (fun σ K => Wo σ fun vo σ1 => Wi σ1 fun vi σ2 => subW vo vi σ2.objs fun r => K r σ2) env nm (eval (.Subscript o i pos) env) := by
  intro os own wr A ad σ s K Q E hA I w post
  refine Subscript_ (ho os own wr A ad σ s _ _ E hA I w fun va a ad1 σ1 s1 w1 ra I1 S1 => ?_)
  refine hi os own wr A ad1 σ1 s1 _ _ E hA I1 w1 fun vb b ad2 σ2 s2 w2 rb I2 S2 => ?_
  have S := I.stp I1 S1 S2
  obtain ⟨T, id, hl, hT, hg⟩ := subOk (A := A) (E := E) (Q := Q) I2.H (ra.stays (I1.sts S2)) rb w2 fun v x s3 k rx m => post _ _ _ _ _ k rx (I2.same m) (I.stp I2 S m.step)
  exact tail_any hT hl hg (hs _ _)

theorem tr_slice {Wo Wl Wh : St → (SV → St → Prop) → Prop} {o : Expr} {l h : Option Expr} {p pos : Pos} (ho : TrE g N c ℓ Wo env nm (eval o env)) (hl : TrE g N c ℓ Wl env nm (evalPart l env)) (hh : TrE g N c ℓ Wh env nm (evalPart h env)) :
    TrE g N c ℓ (fun σ K => Wo σ fun vo σ1 => Wl σ1 fun vl σ2 => Wh σ2 fun vh σ3 => sliceW vo vl vh σ3.objs fun r => K r σ3) env nm (eval (.Subscript o (.Slice l h none p) pos) env) := by
  intro os own wr A ad σ s K Q E hA I w post
  refine Subscript_ (ho os own wr A ad σ s _ _ E hA I w fun va a ad1 σ1 s1 w1 ra I1 S1 => ?_)
  refine wpAny_Slice (hl os own wr A ad1 σ1 s1 _ _ E hA I1 w1 fun vb b ad2 σ2 s2 w2 rb I2 S2 => ?_)
  refine hh os own wr A ad2 σ2 s2 _ _ E hA I2 w2 fun vd d ad3 σ3 s3 w3 rd I3 S3 => ?_
  rw [evalPart_none]
  refine wpAny_pure ?_
  have S := I.stp I2 (I.stp I1 S1 S2) S3
  obtain ⟨T, id, hl, hT, hg⟩ := sliceOk (A := A) (E := E) (Q := Q) I3.H ((ra.stays (I1.sts S2)).stays (I2.sts S3)) (rb.stays (I2.sts S3)) rd w3 fun v x s4 k rx m => post _ _ _ _ _ k rx (I3.same m) (I.stp I3 S m.step)
  exact tail_any hT hl hg rfl

theorem FldsAre.keys {fs : List (Nat × SV)} {es : List DictEntry} {h : Heap} (f : FldsAre g os ad h fs es) : ∀ e ∈ es, ∃ j t, e.key = .str (g.fname j) t := by
  induction fs generalizing es with
  | nil => rw [show es = [] from f]; simp
  | cons p r ih =>
    obtain ⟨v, t, er, rfl, _, _, q⟩ := f
    intro e he
    rcases List.mem_cons.mp he with rfl | he
    · exact ⟨p.1, t, rfl⟩
    · exact ih q e he
theorem FldsAre.get {fs : List (Nat × SV)} {es : List DictEntry} {h : Heap} {f : Nat} {x : SV} (hinj : ∀ j, g.fname j = g.fname f → j = f) (y : FldsAre g os ad h fs es) (e : fs.lookup f = some x) : ∃ v, getL (g.fname f) es = some (some v) ∧ Rep g os ad h x v ∧ handedIn v = true := by
  induction fs generalizing es with
  | nil => simp at e
  | cons p r ih =>
    obtain ⟨n, z⟩ := p
    obtain ⟨v, t, er, rfl, rz, hv, q⟩ := y
    rw [List.lookup_cons] at e
    cases hk : f == n with
    | true =>
      rw [hk] at e; cases e
      have hn : f = n := eq_of_beq hk
      subst hn
      refine ⟨v, ?_, rz, hv⟩
      unfold getL
      simp [Value.isStr]
    | false =>
      rw [hk] at e
      obtain ⟨v', g', r', h'⟩ := ih q e
      refine ⟨v', ?_, r', h'⟩
      have hn : (g.fname n == g.fname f) = false := by
        rw [beq_eq_false_iff_ne]
        intro q
        rw [hinj n q] at hk
        simp at hk
      unfold getL at g' ⊢
      have : DictEntry.refKey ⟨PyData.keyHash g.w.params (g.fname n), .str (g.fname n) t, v⟩ = false := rfl
      simp only [List.find?_cons, Value.isStr, hn, List.any_cons, this, Bool.false_or]
      exact g'

theorem tr_attr (Sp : SpOk g N c ℓ) (hN : ∀ j, N.fname j = g.fname j) {f : Nat} (hf : f < 9) (hinj : ∀ j, g.fname j = g.fname f → j = f) {Wo : St → (SV → St → Prop) → Prop} {o : Expr} {pos : Pos} (hb : notSuper o = true) (ho : TrE g N c ℓ Wo env nm (eval o env)) :
    TrE g N c ℓ (fun σ K => Wo σ fun vo σ1 => match vo with
      | .ref i => (match σ1.objs[i]? with
        | some (.inst _ fs) => (match fs.lookup f with
          | some x => K x σ1
          | none => False)
        | _ => False)
      | _ => False) env nm (eval (.Attribute o (N.fname f) pos) env) := by
  intro os own wr A ad σ s K Q E hA I w post
  rw [arm_eval_Attribute, base_of hb]
  refine wpAny_bind (ho os own wr A ad σ s _ _ E hA I w fun va a ad1 σ1 s1 w1 ra I1 S1 => wpAny_bind (wpAny_standAt ?_))
  split at w1
  · rename_i i
    split at w1
    · rename_i k fs ho
      split at w1
      · rename_i x hx
        obtain ⟨p, hp, rfl⟩ := ra
        obtain ⟨p', hp', d, es, n, hd, h1, h2, h3⟩ := I1.H.objs.get ho
        rw [hp] at hp'; cases hp'
        obtain ⟨v, hg, rv, hv⟩ := h3.get hinj hx
        refine wpAny_bind (wpAny_holding (Sp.attr f hf A os ad1 σ1.objs s1 k p.1 d es n v _ E I1.H h1 h2 (by rw [hN]; exact hg) hv ?_))
        refine wpAny_bind (wpAny_letTemporaryGo (wpAny_pure ?_))
        exact post _ _ _ _ _ w1 (rv.stays Mono.tok.stays) (I1.mono Mono.tok) (I.stp I1 S1 Mono.tok.step)
      · exact w1.elim
    · exact w1.elim
  · exact w1.elim

theorem tr_meth (Sp : SpOk g N c ℓ) (hN : ∀ j, N.fname j = g.fname j) {m : Nat} (hm : m < 5) {Wo : St → (SV → St → Prop) → Prop} {Wr : St → (List SV → St → Prop) → Prop} {o : Expr} {es : List Expr} {apos pos : Pos} (hb : notSuper o = true) (hn : noStar es = true) (hlen : es.length < 20) (hline : (apos.endLine == pos.line) = true)
    (ho : TrE g N c ℓ Wo env nm (eval o env)) (hr : TrL es.length g N c ℓ Wr env nm (spliced (es.map fun e => (false, eval e env)))) :
    TrE g N c ℓ (fun σ K => Wo σ fun vo σ1 => match vo with
      | .ref i => (match σ1.objs[i]? with
        | some (.inst k _) => k = c.mc m ∧ Wr σ1 fun vs σ2 => c.sp (c.mi m) (.ref i :: vs) σ2.objs fun r objs => K r ⟨σ2.vars, objs⟩
        | _ => False)
      | _ => False) env nm (eval (.Call (.Attribute o (N.mname m) apos) es [] pos) env) := by
  intro os own wr A ad σ s K Q E hA I w post
  refine Call_method hb hn hlen hline (ho os own wr A ad σ s _ _ E hA I w fun va a ad1 σ1 s1 w1 ra I1 S1 pl => ?_)
  split at w1
  · rename_i i
    split at w1
    · rename_i k fs ho
      obtain ⟨rfl, w1⟩ := w1
      obtain ⟨p, hp, rfl⟩ := ra
      obtain ⟨p', hp', d, es', n, hd, h1, h2, h3⟩ := I1.H.objs.get ho
      rw [hp] at hp'; cases hp'
      refine Sp.meth m hm A os ad1 σ1.objs s1 p.1 d es' n pl _ E I1.H h1 h2 (fun e he => ?_) ?_
      · obtain ⟨j, t, q⟩ := h3.keys e he
        exact ⟨j, t, by rw [hN]; exact q⟩
      refine callWith_any (P := fun h => KeepOk (model g.prog g.w) h (.ref (g.faddr (c.mi m)))) (fun h k => k) ?_
      refine hr os own wr A ad1 σ1 s1 _ _ E hA I1 w1 fun vs l ad2 σ2 s2 w2 r2 I2 S2 hz => ?_
      have rp : Rep g os ad2 s2.heap (.ref i) (.ref p.1) := Rep.stays (I1.sts S2) _ _ ⟨p, hp, rfl⟩
      obtain ⟨kk, call⟩ := Sp.fn _ _ _ _ (Sp.mi m) w2 A os ad2 s2 (.ref (g.faddr (c.mi m))) (.ref p.1 :: vs) hA I2.H rfl (RepL.cons rp r2)
      refine ⟨kk, call Q E fun v r objs' ad' s' k rv H S => ?_⟩
      exact post _ _ _ _ _ k rv (I2.objs H S) (I.stp I2 (I.stp I1 S1 S2) S)
    · exact w1.elim
  · exact w1.elim

theorem tr_callA (Sp : SpOk g N c ℓ) (hN : ∀ j, N.fname j = g.fname j) (cw : ∀ {f : SV} {args : List SV} {objs : List AO} {K : SV → List AO → Prop}, callW c f args objs K → CallOk g ℓ f args objs K) {f : Nat} (hf : f < 9) (hinj : ∀ j, g.fname j = g.fname f → j = f) {Wo : St → (SV → St → Prop) → Prop} {Wr : St → (List SV → St → Prop) → Prop} {o : Expr} {es : List Expr} {apos pos : Pos} (hb : notSuper o = true) (hn : noStar es = true) (hlen : es.length < 20) (hline : (apos.endLine == pos.line) = true)
    (ho : TrE g N c ℓ Wo env nm (eval o env)) (hr : TrL es.length g N c ℓ Wr env nm (spliced (es.map fun e => (false, eval e env)))) :
    TrE g N c ℓ (fun σ K => Wo σ fun vo σ1 => match vo with
      | .ref i => (match σ1.objs[i]? with
        | some (.inst _ fs) => (match fs.lookup f with
          | some x => Wr σ1 fun vs σ2 => callW c x vs σ2.objs fun r objs => K r ⟨σ2.vars, objs⟩
          | none => False)
        | _ => False)
      | _ => False) env nm (eval (.Call (.Attribute o (N.fname f) apos) es [] pos) env) := by
  intro os own wr A ad σ s K Q E hA I w post
  refine Call_method hb hn hlen hline (ho os own wr A ad σ s _ _ E hA I w fun va a ad1 σ1 s1 w1 ra I1 S1 pl => ?_)
  split at w1
  · rename_i i
    split at w1
    · rename_i k fs ho
      split at w1
      · rename_i x hx
        obtain ⟨p, hp, rfl⟩ := ra
        obtain ⟨p', hp', d, es', n, hd, h1, h2, h3⟩ := I1.H.objs.get ho
        rw [hp] at hp'; cases hp'
        obtain ⟨v, hg, rv, hv⟩ := h3.get hinj hx
        refine Sp.methA f hf A os ad1 σ1.objs s1 k p.1 d es' n v pl _ E I1.H h1 h2 (by rw [hN]; exact hg) hv fun t => ?_
        refine callWith_any (P := fun h => KeepOk (model g.prog g.w) h v) (fun h k => k) ?_
        have I2 := I1.mono (Mono.tok (t := t))
        refine hr os own wr A ad1 σ1 _ _ _ E hA I2 w1 fun vs l ad3 σ3 s3 w3 r3 I3 S3 hz => ?_
        obtain ⟨kk, call⟩ := cw w3 A os ad3 s3 v vs hA I3.H ((rv.stays (Mono.tok (t := t)).stays).stays (I2.sts S3)) r3
        exact ⟨kk, call Q E fun v r objs' ad' s' k rv H S => post _ _ _ _ _ k rv (I3.objs H S) (I.stp I3 (I.stp I2 (I.stp I1 S1 (Mono.tok (t := t)).step) S3) S)⟩
      · exact w1.elim
    · exact w1.elim
  · exact w1.elim

theorem tr_call (cw : ∀ {f : SV} {args : List SV} {objs : List AO} {K : SV → List AO → Prop}, callW c f args objs K → CallOk g ℓ f args objs K) {Wf : St → (SV → St → Prop) → Prop} {Wr : St → (List SV → St → Prop) → Prop} {id : Str} {p pos : Pos} {es : List Expr} (hn : noStar es = true)
    (hf : TrE g N c ℓ Wf env nm (eval (.Name id p) env)) (hr : TrL es.length g N c ℓ Wr env nm (spliced (es.map fun e => (false, eval e env)))) :
    TrE g N c ℓ (fun σ K => Wf σ fun vf σ1 => Wr σ1 fun vs σ2 => callW c vf vs σ2.objs fun r objs => K r ⟨σ2.vars, objs⟩) env nm (eval (.Call (.Name id p) es [] pos) env) := by
  intro os own wr A ad σ s K Q E hA I w post
  show wpAny _ _ (eval (.Name id p) env >>= fun f => callWith pos f [] (backTo pos (starEach es env)) (backToKw pos (keywordEach [] env))) _ _ _
  rw [star_of pos env hn]
  refine wpAny_bind (hf os own wr A ad σ s _ _ E hA I w fun va a ad1 σ1 s1 w1 ra I1 S1 => ?_)
  refine callWith_any (P := fun h => KeepOk (model g.prog g.w) h va) (fun h k => k) ?_
  refine hr os own wr A ad1 σ1 s1 _ _ E hA I1 w1 fun vs l ad2 σ2 s2 w2 r2 I2 S2 hz => ?_
  obtain ⟨kk, call⟩ := cw w2 A os ad2 s2 va vs hA I2.H (ra.stays (I1.sts S2)) r2
  exact ⟨kk, call Q E fun v r objs' ad' s' k rv H S => post _ _ _ _ _ k rv (I2.objs H S) (I.stp I2 (I.stp I1 S1 S2) S)⟩
end
end Vc
end
section
open PySem PySem.W PyProof.Rows PySem.Calls
set_option maxRecDepth 10000
set_option autoImplicit false
set_option linter.unusedVariables false
namespace Vc
section
variable {g : G} {N : Nms} {c : C} {ℓ : Nat} {env : Env} {nm : List (Str × Nat)} {os own : List Addr} {wr : Str → Bool} {ad ad' ad'' : AD} {σ σ' σ'' : St} {s s' s'' : Shared} {A : Around} {E : Value → Shared → Prop} {Q : Value → Shared → Prop} {objs objs' : List AO}

theorem wpAny_release {M : Model} {vs keep : List Value} {Q : Unit → Shared → Prop} (h : Q () s) : wpAny M A (release vs keep) Q E s := fun Γ p hΓ => by rw [Sem.wp_release]; exact h

theorem tr_cmp2 {o1 o2 : CmpOp} {Wa Wb Wd : St → (SV → St → Prop) → Prop} {l r1 r2 : Expr} {pos : Pos} (hm : behindInMarks o2 r2 = false) (ha : TrE g N c ℓ Wa env nm (eval l env)) (hb : TrE g N c ℓ Wb env nm (eval r1 env)) (hd : TrE g N c ℓ Wd env nm (eval r2 env)) :
    TrE g N c ℓ (fun σ K => Wa σ fun va σ1 => Wb σ1 fun vb σ2 => cmpW o1 va vb σ2.objs fun r => match r with
      | .bool true => Wd σ2 fun vd σ3 => cmpW o2 vb vd σ3.objs fun r' => K r' σ3
      | .bool false => K (.bool false) σ2
      | _ => False) env nm (eval (.Compare l [o1, o2] [r1, r2] pos) env) := by
  intro os own wr A ad σ s K Q E hA I w post
  rw [arm_eval_Compare]
  refine wpAny_bind (ha os own wr A ad σ s _ _ E hA I w fun va a ad1 σ1 s1 w1 ra I1 S1 => ?_)
  show wpAny _ _ (holding [va] (eval r1 env) >>= fun rv => standAt pos >>= fun _ => holding [va, rv] (compareOp o1 va rv) >>= fun cv => release [va, rv] [cv] >>= fun _ => holding [cv, rv] (truthy cv) >>= fun b => if b = true then compareChain pos rv [o2] [markedBehindIn o2 r2 (eval r2 env)] else pure cv) _ _ _
  refine wpAny_bind (wpAny_holding (hb os own wr A ad1 σ1 s1 _ _ E hA I1 w1 fun vb b ad2 σ2 s2 w2 rb I2 S2 => wpAny_bind (wpAny_standAt ?_)))
  have S := I.stp I1 S1 S2
  refine wpAny_bind (wpAny_holding (cmpOk I2.H (ra.stays (I1.sts S2)) rb w2 fun v x s3 k rx m => wpAny_bind (wpAny_release ?_)))
  have I3 := I2.same m
  have S3 := I.stp I2 S (m.step (g := g) (own := []) (ad := ad2))
  split at k
  · cases rx
    refine wpAny_bind (wpAny_holding (wpAny_truthy_bool ?_))
    simp only [if_true]
    show wpAny _ _ (holding [vb] (markedBehindIn o2 r2 (eval r2 env)) >>= fun rv => standAt pos >>= fun _ => operate [vb, rv] (compareOp o2 vb rv)) _ _ _
    rw [markedBehindIn_of_false hm]
    refine wpAny_bind (wpAny_holding (hd os own wr A ad2 _ s3 _ _ E hA I3 k fun vd d ad4 σ4 s4 w4 rd I4 S4 => wpAny_bind (wpAny_standAt (wpAny_operating ?_))))
    refine cmpOk I4.H ((rb.stays m.stays).stays (I3.sts S4)) rd w4 fun v x s5 k rx m => ?_
    exact post _ _ _ _ _ k rx (I4.same m) (I.stp I4 (I.stp I3 S3 S4) m.step)
  · cases rx
    refine wpAny_bind (wpAny_holding (wpAny_truthy_bool ?_))
    simp only [Bool.false_eq_true, if_false]
    exact wpAny_pure (post _ _ _ _ _ k rfl I3 S3)
  · exact k.elim

theorem tr_tcmp2 {o1 o2 : CmpOp} {Wa Wb Wd : St → (SV → St → Prop) → Prop} {l r1 r2 : Expr} {pos : Pos} {whole : Sem Value} (hm : behindInMarks o2 r2 = false) (ha : TrE g N c ℓ Wa env nm (eval l env)) (hb : TrE g N c ℓ Wb env nm (eval r1 env)) (hd : TrE g N c ℓ Wd env nm (eval r2 env)) :
    TrT g N c ℓ (fun σ K => Wa σ fun va σ1 => Wb σ1 fun vb σ2 => cmpW o1 va vb σ2.objs fun r => match r with
      | .bool true => Wd σ2 fun vd σ3 => cmpW o2 vb vd σ3.objs fun r' => (match r' with
        | .bool z => K z σ3
        | _ => False)
      | .bool false => K false σ2
      | _ => False) env nm (isTrue (.Compare l [o1, o2] [r1, r2] pos) env whole) := by
  intro os own wr A ad σ s K Q E hA I w post
  rw [arm_isTrue_Compare]
  refine wpAny_bind (ha os own wr A ad σ s _ _ E hA I w fun va a ad1 σ1 s1 w1 ra I1 S1 => ?_)
  show wpAny _ _ (holding [va] (eval r1 env) >>= fun rv => standAt pos >>= fun _ => holding [va, rv] (compareOp o1 va rv) >>= fun cv => release [va, rv] [cv] >>= fun _ => holding [cv, rv] (truthy cv) >>= fun b => if b = true then testChain pos rv [o2] [markedBehindIn o2 r2 (eval r2 env)] else pure false) _ _ _
  refine wpAny_bind (wpAny_holding (hb os own wr A ad1 σ1 s1 _ _ E hA I1 w1 fun vb b ad2 σ2 s2 w2 rb I2 S2 => wpAny_bind (wpAny_standAt ?_)))
  have S := I.stp I1 S1 S2
  refine wpAny_bind (wpAny_holding (cmpOk I2.H (ra.stays (I1.sts S2)) rb w2 fun v x s3 k rx m => wpAny_bind (wpAny_release ?_)))
  have I3 := I2.same m
  have S3 := I.stp I2 S (m.step (g := g) (own := []) (ad := ad2))
  split at k
  · cases rx
    refine wpAny_bind (wpAny_holding (wpAny_truthy_bool ?_))
    simp only [if_true]
    show wpAny _ _ (holding [vb] (markedBehindIn o2 r2 (eval r2 env)) >>= fun rv => standAt pos >>= fun _ => operate [vb, rv] (compareOp o2 vb rv) >>= fun cv => holding [cv] (truthy cv)) _ _ _
    rw [markedBehindIn_of_false hm]
    refine wpAny_bind (wpAny_holding (hd os own wr A ad2 _ s3 _ _ E hA I3 k fun vd d ad4 σ4 s4 w4 rd I4 S4 => wpAny_bind (wpAny_standAt (wpAny_bind (wpAny_operating ?_)))))
    refine cmpOk I4.H ((rb.stays m.stays).stays (I3.sts S4)) rd w4 fun v x s5 k rx m => ?_
    split at k
    · cases rx
      exact wpAny_holding (wpAny_truthy_bool (post _ _ _ _ k (I4.same m) (I.stp I4 (I.stp I3 S3 S4) m.step)))
    · exact k.elim
  · cases rx
    refine wpAny_bind (wpAny_holding (wpAny_truthy_bool ?_))
    simp only [Bool.false_eq_true, if_false]
    exact wpAny_pure (post _ _ _ _ k I3 S3)
  · exact k.elim

theorem tr_bool1 {op : BoolOp} {W : St → (SV → St → Prop) → Prop} {t : Sem Value} {pos : Pos} (h : TrE g N c ℓ W env nm t) : TrE g N c ℓ W env nm (boolOp pos op [t]) := h
theorem tr_bool2 {op : BoolOp} {W Wr : St → (SV → St → Prop) → Prop} {t t' : Sem Value} {rest : List (Sem Value)} {pos : Pos} (h : TrE g N c ℓ W env nm t) (hr : TrE g N c ℓ Wr env nm (boolOp pos op (t' :: rest))) :
    TrE g N c ℓ (fun σ K => W σ fun v σ1 => truW v σ1.objs fun b => boolStep op b (K v σ1) (Wr σ1 K)) env nm (boolOp pos op (t :: t' :: rest)) := by
  intro os own wr A ad σ s K Q E hA I w post
  show wpAny _ _ (t >>= fun v => standAt pos >>= fun _ => holding [v] (truthy v) >>= fun b => match op, b with | .And, false | .Or, true => pure v | _, _ => boolOp pos op (t' :: rest)) _ _ _
  refine wpAny_bind (h os own wr A ad σ s _ _ E hA I w fun v a ad1 σ1 s1 w1 ra I1 S1 => wpAny_bind (wpAny_standAt (wpAny_bind (wpAny_holding ?_))))
  refine truOk I1.H ra w1 fun b s2 k m => ?_
  have I2 := I1.same m
  have S2 := I.stp I1 S1 (m.step (g := g) (own := []) (ad := ad1))
  have go : Wr σ1 K → wpAny (model g.prog g.w) A (boolOp pos op (t' :: rest)) Q E s2 := fun k => hr os own wr A ad1 σ1 s2 _ _ E hA I2 k fun v r ad3 σ3 s3 k3 r3 I3 S3 => post _ _ _ _ _ k3 r3 I3 (I.stp I2 S2 S3)
  cases op <;> cases b
  · exact wpAny_pure (post _ _ _ _ _ k (ra.stays m.stays) I2 S2)
  · exact go k
  · exact go k
  · exact wpAny_pure (post _ _ _ _ _ k (ra.stays m.stays) I2 S2)
theorem tr_all0 {op : BoolOp} : TrT g N c ℓ (fun σ K => K (op == .And) σ) env nm (allTrue op [] env) := by
  intro os own wr A ad σ s K Q E hA I w post
  rw [arm_allTrue_nil]
  exact wpAny_pure (post _ _ _ _ w I Step.refl)
theorem tr_all1 {op : BoolOp} {W Wr : St → (Bool → St → Prop) → Prop} {e : Expr} {rest : List Expr} (h : TrT g N c ℓ W env nm (isTrue e env (eval e env))) (hr : TrT g N c ℓ Wr env nm (allTrue op rest env)) :
    TrT g N c ℓ (fun σ K => W σ fun b σ1 => boolStep op b (K b σ1) (Wr σ1 K)) env nm (allTrue op (e :: rest) env) := by
  intro os own wr A ad σ s K Q E hA I w post
  rw [arm_allTrue_cons]
  refine wpAny_bind (h os own wr A ad σ s _ _ E hA I w fun b ad1 σ1 s1 k I1 S1 => ?_)
  have go : Wr σ1 K → wpAny (model g.prog g.w) A (allTrue op rest env) Q E s1 := fun k => hr os own wr A ad1 σ1 s1 _ _ E hA I1 k fun v ad3 σ3 s3 k3 I3 S3 => post _ _ _ _ k3 I3 (I.stp I1 S1 S3)
  cases op <;> cases b
  · exact wpAny_pure (post _ _ _ _ k I1 S1)
  · exact go k
  · exact go k
  · exact wpAny_pure (post _ _ _ _ k I1 S1)
end
end Vc
end
section
open PySem PySem.W PyProof.Rows PySem.Calls
set_option maxRecDepth 10000
set_option autoImplicit false
set_option linter.unusedVariables false
namespace Vc
section
variable {g : G} {N : Nms} {c : C} {ℓ : Nat} {env : Env} {nm : List (Str × Nat)} {os own : List Addr} {wr : Str → Bool} {ad ad' ad'' : AD} {σ σ' σ'' : St} {s s' s'' : Shared} {A : Around} {E : Value → Shared → Prop} {objs objs' : List AO}

theorem set_get {vars : List SV} {i j : Nat} {x y : SV} (h : (vars.set i x)[j]? = some y) : (j = i ∧ y = x) ∨ (j ≠ i ∧ vars[j]? = some y) := by
  rw [List.getElem?_set] at h
  by_cases e : i = j
  · subst e
    simp at h
    exact .inl ⟨rfl, h.2.symm⟩
  · simp [e] at h
    exact .inr ⟨fun q => e q.symm, h⟩

/-- a name of the frame is stored -/
theorem store_ok {x : Str} {i : Nat} {v : Value} {y : SV} {Q : Unit → Shared → Prop} (I : Inv g os own env nm wr ad σ s) (hw : wr x = true) (hx : nm.lookup x = some i) (r : Rep g os ad s.heap y v)
    (h : ∀ s', Inv g os own env nm wr ad ⟨σ.vars.set i y, σ.objs⟩ s' → (∃ a ∈ own, ModI a s s') → Q () s') : wpAny (model g.prog g.w) A (storeName env x v) Q E s := by
  rcases I.F.wr x hw with hk | ⟨hk, hc⟩
  · obtain ⟨m, hn, hm⟩ := I.F.ns
    refine wpAny_storeName_local hk hn (fun h' hn' hs' => ?_) (by rw [I.F.kind]; rfl)
    have ho := I.F.inOs _ I.F.loc
    have M : ModI env.locals s { s with heap := h', toks := s.toks + 1 } := mod_same (let ⟨o, _, _, e, _⟩ := hn'; ⟨o, e⟩) hs'
    have st := (M.step (g := g) (ad := ad)).stays (os := os) (by simpa using ho)
    refine h _ ⟨M.inv I.H ho, ?_⟩ ⟨_, I.F.loc, M⟩
    refine ⟨I.F.kind, I.F.glob, I.F.blt, I.F.inOs, I.F.loc, ⟨_, hn', fun z j h1 h2 sv h3 => ?_⟩, fun z j h1 h2 => ?_, I.F.inj, I.F.wr⟩
    · rcases set_get h3 with ⟨rfl, rfl⟩ | ⟨hj, h3⟩
      · have := I.F.inj z x j h1 hx
        subst this
        exact .inr ⟨v, by simp, r.stays st⟩
      · have hz : z ≠ x := fun q => hj (by subst q; rw [hx] at h1; cases h1; rfl)
        simp only [hz, if_false]
        exact (hm z j h1 h2 sv h3).stays st
    · obtain ⟨hk', cc, ov, h3, h4, h5, h6, h7⟩ := I.F.cells z j h1 h2
      refine ⟨hk', cc, ov, h3, h4.sameBut hs' h6, fun sv q => ?_, h6, h7⟩
      rcases set_get q with ⟨rfl, rfl⟩ | ⟨hj, q⟩
      · have := I.F.inj z x j h1 hx
        subst this
        exact (h2 hk).elim
      · exact (h5 sv q).stays st
  · have hnl : env.kindOf x ≠ some .local := by rw [hk]; decide
    obtain ⟨_, cc, ov, h3, h4, h5, h6, h7, h8⟩ := I.F.cells x i hx hnl
    obtain ⟨hown, huniq⟩ := hc cc h3
    refine wpAny_storeName_cell I.F.kind hk h3 h4 fun h' hc' hs' => ?_
    have ho := I.F.inOs _ hown
    have M : ModI cc s { s with heap := h' } := mod_same' (let ⟨o, e, _⟩ := hc'; ⟨o, e⟩) hs'
    have st := (M.step (g := g) (ad := ad)).stays (os := os) (by simpa using ho)
    refine h _ ⟨M.inv I.H ho, ?_⟩ ⟨_, hown, M⟩
    refine ⟨I.F.kind, I.F.glob, I.F.blt, I.F.inOs, I.F.loc, ?_, fun z j h1 h2 => ?_, I.F.inj, I.F.wr⟩
    · obtain ⟨m, hn, hm⟩ := I.F.ns
      refine ⟨m, hn.sameBut hs' (Ne.symm h6), fun z j h1 h2 sv q => ?_⟩
      rcases set_get q with ⟨rfl, rfl⟩ | ⟨hj, q⟩
      · have := I.F.inj z x j h1 hx
        subst this
        exact (hnl h2).elim
      · exact (hm z j h1 h2 sv q).stays st
    · obtain ⟨hk', c2, ov2, g3, g4, g5, g6, g7⟩ := I.F.cells z j h1 h2
      by_cases hz : z = x
      · subst hz
        rw [h3] at g3; cases g3
        rw [hx] at h1; cases h1
        refine ⟨hk', cc, some v, h3, hc', fun sv q => ?_, h6, h7, h8⟩
        rcases set_get q with ⟨_, rfl⟩ | ⟨hj, _⟩
        · exact .inr ⟨v, rfl, r.stays st⟩
        · exact (hj rfl).elim
      · have hcc : c2 ≠ cc := fun q => hz (huniq z (by rw [g3, q]))
        refine ⟨hk', c2, ov2, g3, g4.sameBut hs' hcc, fun sv q => ?_, g6, g7⟩
        rcases set_get q with ⟨rfl, rfl⟩ | ⟨hj, q⟩
        · exact (hz (I.F.inj z x j h1 hx)).elim
        · exact (g5 sv q).stays st

theorem closure_ok {scope : Scope} {env : Env} (h : ∀ p ∈ scope.names, p.2 = NameKind.free → ∃ a, env.cells.lookup p.1 = some a) :
    ∃ cl, closureFor scope env = pure cl ∧ (∀ p ∈ scope.names, p.2 = NameKind.free → cl.lookup p.1 = env.cells.lookup p.1) ∧ ∀ x a, cl.lookup x = some a → env.cells.lookup x = some a := by
  have z : ∀ (names : List (Str × NameKind)) (acc : List (Str × Addr)), (∀ p ∈ names, p.2 = NameKind.free → ∃ a, env.cells.lookup p.1 = some a) → (∀ x a, acc.lookup x = some a → env.cells.lookup x = some a) →
      ∃ cl, (forIn names acc fun (p : Str × NameKind) cs => (if p.2 == .free then do let a ← cellOf env p.1; pure (ForInStep.yield ((p.1, a) :: cs)) else pure (ForInStep.yield cs) : Sem _)) = pure cl ∧
        (∀ p ∈ names, p.2 = NameKind.free → cl.lookup p.1 = env.cells.lookup p.1) ∧ (∀ x a, cl.lookup x = some a → env.cells.lookup x = some a) ∧ ∀ x a, acc.lookup x = some a → cl.lookup x = some a := by
    intro names
    induction names with
    | nil => intro acc _ ha; exact ⟨acc, by rw [List.forIn_nil], by simp, ha, fun _ _ e => e⟩
    | cons p r ih =>
      intro acc hp ha
      obtain ⟨n, k⟩ := p
      rw [List.forIn_cons]
      by_cases hk : k = .free
      · subst hk
        obtain ⟨a, hc⟩ := hp (n, .free) (by simp) rfl
        have ha' : ∀ x b, ((n, a) :: acc).lookup x = some b → env.cells.lookup x = some b := fun x b e => by
          rw [List.lookup_cons] at e
          cases hx : x == n with
          | true => rw [hx] at e; cases e; rw [eq_of_beq hx]; exact hc
          | false => rw [hx] at e; exact ha x b e
        obtain ⟨cl, e, h1, h2, h3⟩ := ih ((n, a) :: acc) (fun q hq => hp q (by simp [hq])) ha'
        refine ⟨cl, ?_, fun q hq hf => ?_, h2, fun x b e => ?_⟩
        · simp only [beq_self_eq_true, if_true, cellOf, hc, pure_bind]
          exact e
        · rcases List.mem_cons.mp hq with rfl | hq
          · rw [h3 n a (by simp [List.lookup_cons]), hc]
          · exact h1 q hq hf
        · cases hx : x == n with
          | true =>
            have := ha x b e
            have e1 := eq_of_beq hx
            subst e1
            rw [hc] at this; cases this
            exact h3 x a (by simp [List.lookup_cons])
          | false => exact h3 x b (by rw [List.lookup_cons, hx]; exact e)
      · obtain ⟨cl, e, h1, h2, h3⟩ := ih acc (fun q hq => hp q (by simp [hq])) ha
        refine ⟨cl, ?_, fun q hq hf => ?_, h2, h3⟩
        · have : (k == NameKind.free) = false := by simpa using hk
          simp only [this, Bool.false_eq_true, if_false, pure_bind]
          exact e
        · rcases List.mem_cons.mp hq with rfl | hq
          · exact (hk hf).elim
          · exact h1 q hq hf
  obtain ⟨cl, e, h1, h2, _⟩ := z scope.names [] h (by simp)
  refine ⟨cl, ?_, h1, h2⟩
  unfold closureFor
  have e' : (forIn scope.names [] fun (p : Str × NameKind) cs => (if p.2 == .free then do let a ← cellOf env p.1; pure (ForInStep.yield ((p.1, a) :: cs)) else pure (ForInStep.yield cs) : Sem _)) = pure cl := e
  show (_ >>= _) = _
  rw [show (forIn scope.names ([] : List (Str × Addr)) _ : Sem _) = pure cl from e']
  rfl
end
end Vc
end
section
open PySem PySem.W PyProof.Rows PySem.Calls
set_option maxRecDepth 10000
set_option autoImplicit false
set_option linter.unusedVariables false
namespace Vc
section
variable {g : G} {N : Nms} {c : C} {ℓ : Nat} {env : Env} {nm : List (Str × Nat)} {os os' own : List Addr} {wr : Str → Bool} {ad ad' ad'' : AD} {σ σ' σ'' : St} {s s' s'' : Shared} {A : Around} {E : Value → Shared → Prop} {objs objs' : List AO} {vars : List SV} {h h' : Heap}

theorem FrOk.change (F : FrOk g os own env nm wr ad vars h) (st : Stays g os ad h os' ad' h) (ho : ∀ a ∈ own, a ∈ os') (hc : ∀ a, NmCell env nm a → a ∉ adr ad → a ∉ adr ad') : FrOk g os' own env nm wr ad' vars h := by
  refine ⟨F.kind, F.glob, F.blt, ho, F.loc, ?_, ?_, F.inj, F.wr⟩
  · obtain ⟨mm, hm, hv⟩ := F.ns
    exact ⟨mm, hm, fun x i h1 h2 sv h3 => (hv x i h1 h2 sv h3).stays st⟩
  · intro x i h1 h2
    obtain ⟨hk, cc, ov, h3, h4, h5, h6, h7, h8⟩ := F.cells x i h1 h2
    exact ⟨hk, cc, ov, h3, h4, fun sv q => (h5 sv q).stays st, h6, hc cc ⟨x, i, h1, h2, h3⟩ h7, h8⟩

theorem Stays.dropMod {b : Addr} (m : ∀ a o, a ≠ b → h.get? a = some o → h'.get? a = some o) : Stays g (b :: os) ad h os ad h' := by
  refine ⟨fun a o ⟨q, n⟩ => ⟨m a o (fun e => n (mem_mt.mpr (.inl (by simp [e])))) q, fun hm => n ?_⟩, fun _ _ e => e⟩
  rw [mem_mt] at hm ⊢
  exact hm.imp (fun x => by simp [x]) id
/-- what is laid by is let go, and may be another -/
theorem Inv.dropMod {b : Addr} (I : Inv g (b :: os) own env nm wr ad σ s) (hb : b ∉ os) (ho : ∀ a ∈ own, a ∈ os) (hn : env.locals ≠ b ∧ ∀ a, NmCell env nm a → a ≠ b)
    (m : ∀ a o, a ≠ b → s.heap.get? a = some o → s'.heap.get? a = some o) : Inv g os own env nm wr ad σ s' := by
  have n1 := I.H.ap1 b (by simp)
  have n2 : b ∉ g.tabs := fun q => (I.H.ap2 b q).1 (by simp)
  have n0 : g.h₀.get? b = none := I.H.fresh₀ b (mem_mt.mpr (.inl (by simp)))
  have st : Stays g (b :: os) ad s.heap os ad s'.heap := by
    refine ⟨fun a o ⟨q, n⟩ => ⟨m a o (fun e => n (mem_mt.mpr (.inl (by simp [e])))) q, fun hm => n ?_⟩, fun _ _ e => e⟩
    rw [mem_mt] at hm ⊢
    exact hm.imp (fun x => by simp [x]) id
  refine ⟨⟨fun a o e => m a o (fun q => by rw [q, n0] at e; cases e) (I.H.base a o e), fun a ha => I.H.fresh₀ a ?_, fun a ha => ?_, I.H.nodup, fun a ha => I.H.ap1 a (by simp [ha]), fun a ha => ⟨fun q => (I.H.ap2 a ha).1 (by simp [q]), (I.H.ap2 a ha).2⟩, fun a ha => ?_, I.H.objs.1, fun j o p e1 e2 => ?_⟩, I.F.kind, I.F.glob, I.F.blt, ho, I.F.loc, ?_, ?_, I.F.inj, I.F.wr⟩
  · rw [mem_mt] at ha ⊢
    exact ha.imp (fun x => by simp [x]) id
  · obtain ⟨o, e⟩ := I.H.live a (by simp [ha])
    exact ⟨o, m a o (fun q => hb (q ▸ ha)) e⟩
  · obtain ⟨o, e, t⟩ := I.H.tabs a ha
    exact ⟨o, m a o (fun q => n2 (q ▸ ha)) e, t.stays st⟩
  · refine (I.H.objs.2 j o p e1 e2).stays st fun a ha o' e => m a o' (fun q => n1 ?_) e
    subst q
    simp only [List.mem_cons, Option.mem_toList] at ha
    rcases ha with rfl | ha
    · exact adr_of_get e2
    · exact adr_of_get2 e2 ha
  · obtain ⟨mm, ⟨o, es, ep, q, r⟩, hv⟩ := I.F.ns
    exact ⟨mm, ⟨o, es, ep, m _ _ hn.1 q, r⟩, fun x i h1 h2 sv h3 => (hv x i h1 h2 sv h3).stays st⟩
  · intro x i h1 h2
    obtain ⟨hk, cc, ov, h3, ⟨o, h4, h4'⟩, h5, h6, h7, h8⟩ := I.F.cells x i h1 h2
    exact ⟨hk, cc, ov, h3, ⟨o, m _ _ (hn.2 cc ⟨x, i, h1, h2, h3⟩) h4, h4'⟩, fun sv q => (h5 sv q).stays st, h6, h7, h8⟩

theorem items_guard {x : SV} {l : List SV} (e : itemsOf objs x = some l) (h : guardOf x l objs') : itemsOf objs' x = some l := by
  cases x <;> first | exact e | (simp only [itemsOf, guardOf] at *; rw [h])

theorem relabel_free {env : Env} : ∀ {names : List (Str × NameKind)} {x : Str}, names.lookup x = some .free →
    (names.map fun (n, k) => if (k == NameKind.free && env.scope.kind == .function && env.kindOf n == some .cell) then (n, NameKind.cell) else (n, k)).lookup x = some .cell ∨
    (names.map fun (n, k) => if (k == NameKind.free && env.scope.kind == .function && env.kindOf n == some .cell) then (n, NameKind.cell) else (n, k)).lookup x = some .free
  | [], _, h => by simp at h
  | (n, k) :: r, x, h => by
    have ih := @relabel_free env r x
    show List.lookup x ((if (k == NameKind.free && env.scope.kind == .function && env.kindOf n == some .cell) = true then (n, NameKind.cell) else (n, k)) :: _) = _ ∨ List.lookup x ((if (k == NameKind.free && env.scope.kind == .function && env.kindOf n == some .cell) = true then (n, NameKind.cell) else (n, k)) :: _) = _
    cases hx : x == n with
    | true =>
      simp only [List.lookup_cons, hx] at h
      cases h
      by_cases hc : (NameKind.free == NameKind.free && env.scope.kind == .function && env.kindOf n == some .cell) = true
      · rw [if_pos hc]; simp [List.lookup_cons, hx]
      · rw [if_neg hc]; simp [List.lookup_cons, hx]
    | false =>
      simp only [List.lookup_cons, hx] at h
      by_cases hc : (k == NameKind.free && env.scope.kind == .function && env.kindOf n == some .cell) = true
      · rw [if_pos hc]; simp only [List.lookup_cons, hx]; exact ih h
      · rw [if_neg hc]; simp only [List.lookup_cons, hx]; exact ih h
theorem relabel_glob {env : Env} : ∀ {names : List (Str × NameKind)} {x : Str}, names.lookup x = some .globalImplicit →
    (names.map fun (n, k) => if (k == NameKind.free && env.scope.kind == .function && env.kindOf n == some .cell) then (n, NameKind.cell) else (n, k)).lookup x = some .globalImplicit
  | [], _, h => by simp at h
  | (n, k) :: r, x, h => by
    have ih := @relabel_glob env r x
    show List.lookup x ((if (k == NameKind.free && env.scope.kind == .function && env.kindOf n == some .cell) = true then (n, NameKind.cell) else (n, k)) :: _) = _
    cases hx : x == n with
    | true =>
      simp only [List.lookup_cons, hx] at h
      cases h
      simp [List.lookup_cons, hx]
    | false =>
      simp only [List.lookup_cons, hx] at h
      by_cases hc : (k == NameKind.free && env.scope.kind == .function && env.kindOf n == some .cell) = true
      · rw [if_pos hc]; simp only [List.lookup_cons, hx]; exact ih h
      · rw [if_neg hc]; simp only [List.lookup_cons, hx]; exact ih h

/-- an iterator gives itself -/
theorem iter_self {x : SV} {v : Value} {i : Addr} {k : Nat} {Q : Value → Shared → Prop} (hi : isIt x = true) (it : ItAt x v i k s.heap) (h : Q (.ref i) s) : wpAny (model g.prog g.w) A (pyIter (.ref i)) Q E s := by
  cases x <;> simp only [isIt, Bool.false_eq_true] at hi
  · obtain ⟨t, _, q⟩ := it
    exact KBw.pyIter_self q h
  · obtain ⟨a, _, q⟩ := it
    exact wpAny_pyIter_tupleiter q h
  · obtain ⟨a, _, q⟩ := it
    exact wpAny_pyIter_listiter q h
  · exact wpAny_pyIter_rangeiter it h
  · obtain ⟨a, _, q⟩ := it
    exact wpAny_pyIter_listiter q h
theorem isIt_of {x : SV} {l : List SV} (e : itemsOf objs x = some l) : isIt x = true := by
  cases x <;> simp only [itemsOf] at e <;> first | rfl | cases e
end
end Vc
end
section
open PySem PySem.W PyProof.Rows PySem.Calls
set_option maxRecDepth 10000
set_option autoImplicit false
set_option linter.unusedVariables false
namespace Vc

structure CompS (env : Env) (nm nm' : List (Str × Nat)) (sc : Scope) (x : Str) (i : Nat) : Prop where
  kind : sc.kind = .function
  cell : ∀ p ∈ sc.names, p.2 ≠ .cell
  loc : ∀ p ∈ sc.names, p.2 = .local → sc.names.lookup p.1 = some .local
  free : ∀ p ∈ sc.names, p.2 = .free → (∃ j, nm.lookup p.1 = some j) ∧ (env.kindOf p.1 = some .cell ∨ env.kindOf p.1 = some .free)
  nms : ∀ y j, nm'.lookup y = some j → (y = x ∧ j = i) ∨ (sc.names.lookup y = some .free ∧ nm.lookup y = some j ∧ j ≠ i)
  inj : ∀ y z j, nm'.lookup y = some j → nm'.lookup z = some j → y = z
  xi : nm'.lookup x = some i
  xl : sc.names.lookup x = some .local

section
variable {g : G} {N : Nms} {c : C} {ℓ : Nat} {env : Env} {nm nm' : List (Str × Nat)} {os os' own : List Addr} {wr : Str → Bool} {ad ad' ad'' : AD} {σ σ' σ'' : St} {s s' s'' : Shared} {A : Around} {E : Value → Shared → Prop} {objs objs' : List AO} {vars : List SV} {h h' : Heap} {sc : Scope} {x : Str} {i : Nat}

theorem mem_of_lookup' {α : Type} {l : List (Str × α)} {n : Str} {a : α} (h : l.lookup n = some a) : (n, a) ∈ l := mem_of_lookup h

def cwr (sc : Scope) : Str → Bool := fun y => sc.names.lookup y == some .local

theorem comp_fr {cl : List (Str × Addr)} {C : Addr} (S : CompS env nm nm' sc x i) (F : FrOk g os own env nm wr ad vars h) (hC : C ∈ os) (hn : h.Ns C fun _ => none) (hcl : ∀ p ∈ sc.names, p.2 = NameKind.free → cl.lookup p.1 = env.cells.lookup p.1)
    (hne : ∀ a, NmCell env nm a → a ≠ C) :
    FrOk g os [C] (compEnvC sc cl C env) nm' (cwr sc) ad (vars.set i .unb) h := by
  have hk : ∀ y, (compEnvC sc cl C env).kindOf y = (relabel sc env).names.lookup y := fun y => rfl
  have hl : ∀ y, sc.names.lookup y = some .local → (compEnvC sc cl C env).kindOf y = some .local := fun y q => lookup_relabel_local q
  refine ⟨S.kind, F.glob, F.blt, by simpa using hC, by simp [compEnvC], ⟨_, hn, fun y j h1 h2 sv h3 => ?_⟩, fun y j h1 h2 => ?_, S.inj, fun y hy => .inl (hl y (beq_iff_eq.mp hy))⟩
  · rcases S.nms y j h1 with ⟨rfl, rfl⟩ | ⟨hf, _, _⟩
    · rcases set_get h3 with ⟨_, rfl⟩ | ⟨q, _⟩
      · exact .inl rfl
      · exact (q rfl).elim
    · rcases relabel_free (env := env) hf with q | q
      · exfalso
        have : (compEnvC sc cl C env).kindOf y = some .cell := q
        rw [this] at h2; cases h2
      · exfalso
        have : (compEnvC sc cl C env).kindOf y = some .free := q
        rw [this] at h2; cases h2
  · rcases S.nms y j h1 with ⟨rfl, rfl⟩ | ⟨hf, hj, hji⟩
    · exact (h2 (hl y S.xl)).elim
    · have hmem := mem_of_lookup hf
      obtain ⟨_, hko⟩ := S.free _ hmem rfl
      have hnl : env.kindOf y ≠ some .local := by rcases hko with q | q <;> rw [show env.kindOf y = _ from q] <;> decide
      obtain ⟨_, cc, ov, g3, g4, g5, g6, g7, g8⟩ := F.cells y j hj hnl
      refine ⟨relabel_free hf, cc, ov, ?_, g4, fun sv q => ?_, hne cc ⟨y, j, hj, hnl, g3⟩, g7, g8⟩
      · show cl.lookup y = some cc
        rw [hcl _ hmem rfl, g3]
      · rcases set_get q with ⟨e, _⟩ | ⟨_, q⟩
        · exact (hji e).elim
        · exact g5 sv q

/-- the loop of a comprehension -/
theorem comp_loop {ee ie : Expr} {px pos : Pos} {ifs : List Expr} {cenv : Env} {D it : Addr} {vi : SV} {xv : Value} {l : List SV} {We : St → (SV → St → Prop) → Prop} {Wt : St → (Bool → St → Prop) → Prop}
    {R : Result → Shared → Prop} {adS : AD} {sS : Shared} {wrc : Str → Bool} {KK : List SV → St → Prop}
    (hA : AOk A ℓ) (hwx : wrc x = true) (hxi : nm'.lookup x = some i) (hl : cenv.locals ≠ D ∧ cenv.locals ≠ it ∧ D ≠ it) (hcl : ∀ a, NmCell cenv nm' a → a ≠ D ∧ a ≠ it)
    (hDi : D ∈ os ∧ it ∈ os ∧ cenv.locals ∈ os) (hll : l.length ≤ lim)
    (hIsrc : itemsOf objs vi = some l) (HS : InvH g os adS objs' sS)
    (he : TrE g N c ℓ We cenv nm' (eval ee cenv))
    (ht : TrT g N c ℓ Wt cenv nm' (forIn ifs true fun c r => if r = true then do let ok ← isTrue c cenv (eval c cenv); pure (ForInStep.yield ok) else pure (ForInStep.yield r)))
    (fin : ∀ ad' σ' s' acc vs n, KK acc σ' → guardOf vi l σ'.objs → Inv g os [cenv.locals] cenv nm' wrc ad' σ' s' → s'.heap.get? D = some (lstObj vs n) → RepL g os ad' s'.heap acc vs → Step g [cenv.locals, D, it] adS sS ad' s' → 
      ∀ s'', (∀ a o, a ≠ it → s'.heap.get? a = some o → s''.heap.get? a = some o) → s''.os = s'.os ∧ s''.gens = s'.gens → R (.ok .next) s'') :
    ∀ (rest : List SV) (k : Nat) (ad' : AD) (σ' : St) (s' : Shared) (acc : List SV) (vs : List Value) (n : Nat), l = l.take k ++ rest → k + rest.length = l.length → compW We Wt [i] (guardOf vi l) rest acc σ' KK → Inv g os [cenv.locals] cenv nm' wrc ad' σ' s' →
      Rep g os ad' s'.heap vi xv → ItAt vi xv it k s'.heap → s'.heap.get? D = some (lstObj vs n) → RepL g os ad' s'.heap acc vs → acc.length ≤ k → Step g [cenv.locals, D, it] adS sS ad' s' →
      codeAny (model g.prog g.w) A (.compLoop (.ListComp ee [⟨.Name x px, ie, ifs, 0⟩] sc pos) 0 (.ref it) (.ref D) cenv) R s' := by
  intro rest k ad' σ' s' acc vs n h1 h2 h3 h4 h5 h6 h7 h8 h9 h10
  have hown : ∀ a ∈ [cenv.locals, D, it], a ∈ os := by simp [hDi]
  refine codeAny_compLoop_tests (fun m s => ∃ (rest : List SV) (k : Nat) (ad' : AD) (σ' : St) (acc : List SV) (vs : List Value) (n : Nat), m = rest.length ∧ l = l.take k ++ rest ∧ k + rest.length = l.length ∧ compW We Wt [i] (guardOf vi l) rest acc σ' KK ∧ Inv g os [cenv.locals] cenv nm' wrc ad' σ' s ∧
      Rep g os ad' s.heap vi xv ∧ ItAt vi xv it k s.heap ∧ s.heap.get? D = some (lstObj vs n) ∧ RepL g os ad' s.heap acc vs ∧ acc.length ≤ k ∧ Step g [cenv.locals, D, it] adS sS ad' s) ?_ rest.length ⟨rest, k, ad', σ', acc, vs, n, rfl, h1, h2, h3, h4, h5, h6, h7, h8, h9, h10⟩
  clear h1 h2 h3 h4 h5 h6 h7 h8 h9 h10
  rintro _ s ⟨rest, k, ad, σ, acc, vs, n, rfl, h1, h2, w, I, rs, iti, hD, ra, hk, st⟩
  cases rest with
  | nil =>
    obtain ⟨hg, w⟩ := w
    have hi := items_guard hIsrc hg
    have ek : k = l.length := by simpa using h2
    subst ek
    refine iter_end I.H hA.1 rs hi iti fun s'' q r => ?_
    exact fin ad σ s acc vs n w hg I hD ra st s'' q r
  | cons y rest =>
    obtain ⟨hg, w⟩ := w
    have hi := items_guard hIsrc hg
    have hk1 : k < l.length := by simp at h2; omega
    have hy : l[k]? = some y := by
      have hkl : (l.take k).length = k := by simp; omega
      have e : l[k]? = (l.take k ++ y :: rest)[k]? := congrArg (fun z : List SV => z[k]?) h1
      rw [e, List.getElem?_append_right (by omega), hkl]; simp
    refine iter_next I.H hDi.2.1 rs hi iti hy fun v s1 rv it1 m1 => ?_
    have I1 : Inv g os [cenv.locals] cenv nm' wrc ad σ s1 := ⟨m1.inv I.H hDi.2.1, m1.fr I.H hDi.2.1 I.F ⟨hl.2.1, fun a q => (hcl a q).2⟩⟩
    have t1 : Step g [cenv.locals, D, it] ad s ad s1 := (m1.step (g := g) (ad := ad)).weaken fun a ha => .inl (by simp at ha; simp [ha])
    have S1 := Step.trans HS hown I.H st t1
    have z1 : Stays g os ad s.heap os ad s1.heap := m1.step.stays (by simpa using hDi.2.1)
    have hD1 := m1.keep _ _ hl.2.2 hD
    refine wpAny_assign_Name (store_ok I1 hwx hxi rv fun s2 I2 ⟨a2, ha2, m2⟩ => ?_)
    simp only [List.mem_singleton] at ha2
    subst ha2
    have t2 : Step g [cenv.locals, D, it] ad s1 ad s2 := (m2.step (g := g) (ad := ad)).weaken fun a ha => .inl (by simp at ha; simp [ha])
    have S2 := Step.trans HS hown I1.H S1 t2
    have z2 : Stays g os ad s1.heap os ad s2.heap := m2.step.stays (by simpa using hDi.2.2)
    have hD2 := m2.keep _ _ (Ne.symm hl.1) hD1
    have it2 : ItAt vi xv it (k + 1) s2.heap := it1.keep fun o e => m2.keep _ _ (Ne.symm hl.2.1) e
    refine ht os [cenv.locals] wrc A ad _ s2 _ _ _ hA I2 w fun b ad3 σ3 s3 w3 I3 t3 => ?_
    have S3 := Step.trans HS hown I2.H S2 (t3.weaken (by simp))
    have nD : ∀ {adx : AD} {objsx : List AO} {sx : Shared}, InvH g os adx objsx sx → D ∉ adr adx ∧ D ∉ g.tabs := fun H => ⟨H.ap1 D hDi.1, fun q => (H.ap2 D q).1 hDi.1⟩
    have nI : ∀ {adx : AD} {objsx : List AO} {sx : Shared}, InvH g os adx objsx sx → it ∉ adr adx ∧ it ∉ g.tabs := fun H => ⟨H.ap1 it hDi.2.1, fun q => (H.ap2 it q).1 hDi.2.1⟩
    have hD3 := t3.keep D _ (by simp) (nD I2.H).1 (nD I2.H).2 hD2
    have it3 : ItAt vi xv it (k + 1) s3.heap := it2.keep fun o e => t3.keep it _ (by simp) (nI I2.H).1 (nI I2.H).2 e
    have z3 := I2.sts t3
    have e1 : l = l.take (k + 1) ++ rest := by
      have : l.take (k + 1) = l.take k ++ [y] := by
        rw [List.take_add_one, hy]; rfl
      rw [this, List.append_assoc]; exact h1
    have e2 : k + 1 + rest.length = l.length := by simp at h2; omega
    cases b with
    | false =>
      simp only [Bool.false_eq_true, if_false] at w3 ⊢
      exact ⟨_, Nat.lt_succ_self _, rest, k + 1, ad3, σ3, acc, vs, n, rfl, e1, e2, w3, I3, ((rs.stays z1).stays z2).stays z3, it3, hD3, ((ra.stays z1).stays z2).stays z3, by omega, S3⟩
    | true =>
      simp only [if_true] at w3 ⊢
      refine he os [cenv.locals] wrc A ad3 σ3 s3 _ _ _ hA I3 w3 fun v y' ad4 σ4 s4 w4 r4 I4 t4 => ?_
      have S4 := Step.trans HS hown I3.H S3 (t4.weaken (by simp))
      have z4 := I3.sts t4
      have hD4 := t4.keep D _ (by simp) (nD I3.H).1 (nD I3.H).2 hD3
      have it4 : ItAt vi xv it (k + 1) s4.heap := it3.keep fun o e => t4.keep it _ (by simp) (nI I3.H).1 (nI I3.H).2 e
      have ra4 : RepL g os ad4 s4.heap acc vs := (((ra.stays z1).stays z2).stays z3).stays z4
      refine wpAny_list_append_plain ⟨n, hD4⟩ (fun h' ⟨n', hp⟩ hs' => ?_) ?_
      · have m5 : ModI D s4 { s4 with heap := h' } := mod_same' ⟨_, hp⟩ hs'
        have t5 : Step g [cenv.locals, D, it] ad4 s4 ad4 { s4 with heap := h' } := (m5.step (g := g) (ad := ad4)).weaken fun a ha => .inl (by simp at ha; simp [ha])
        have z5 : Stays g os ad4 s4.heap os ad4 h' := m5.step.stays (by simpa using hDi.1)
        refine ⟨_, Nat.lt_succ_self _, rest, k + 1, ad4, σ4, acc ++ [y'], vs ++ [v], n', rfl, e1, e2, w4, ⟨m5.inv I4.H hDi.1, m5.fr I4.H hDi.1 I4.F ⟨hl.1, fun a q => (hcl a q).1⟩⟩, ((((rs.stays z1).stays z2).stays z3).stays z4).stays z5, ?_, ?_, (ra4.append (.one r4)).stays z5, by simp; omega, Step.trans HS hown I4.H S4 t5⟩
        · exact it4.keep fun o e => m5.keep _ _ (Ne.symm hl.2.2) e
        · rw [hp]; simp [lstObj]
      · rw [List.size_toArray, ra4.length, sizeLine_eq]
        simp only [lim] at hll
        omega
end
end Vc
end
section
open PySem PySem.W PyProof.Rows PySem.Calls
set_option maxRecDepth 10000
set_option autoImplicit false
set_option linter.unusedVariables false
namespace Vc
section
variable {g : G} {N : Nms} {c : C} {ℓ : Nat} {env : Env} {nm nm' : List (Str × Nat)} {os os' own : List Addr} {wr : Str → Bool} {ad ad' ad'' : AD} {σ σ' σ'' : St} {s s' s'' : Shared} {A : Around} {E : Value → Shared → Prop} {objs objs' : List AO} {vars : List SV} {h h' : Heap} {sc : Scope} {x : Str} {i : Nat}

theorem none_ne {a b : Addr} {o : Obj} (h1 : h.get? a = some o) (h2 : h.get? b = none) : a ≠ b := fun e => by rw [e, h2] at h1; cases h1

/-- a comprehension, its value used or handed on -/
theorem comp_ok {ee ie : Expr} {px pos p0 : Pos} {ifs : List Expr} {Wi We : St → (SV → St → Prop) → Prop} {Wt : St → (Bool → St → Prop) → Prop} {mu : Bool} {K : SV → St → Prop} {use : Option (Value → Sem Unit)} {Q : Value → Shared → Prop}
    (Sc : CompS env nm nm' sc x i) (hs : ∀ z, foldedSetIterable ie env z = pure z)
    (hi : TrE g N c ℓ Wi env nm (eval ie env))
    (he : ∀ cl C, TrE g N c ℓ We (compEnvC sc cl C env) nm' (eval ee (compEnvC sc cl C env)))
    (ht : ∀ cl C, TrT g N c ℓ Wt (compEnvC sc cl C env) nm' (forIn ifs true fun c r => if r = true then do let ok ← isTrue c (compEnvC sc cl C env) (eval c (compEnvC sc cl C env)); pure (ForInStep.yield ok) else pure (ForInStep.yield r)))
    (hA : AOk A ℓ) (I : Inv g os own env nm wr ad σ s)
    (w : Wi σ fun vi σ1 => match itemsOf σ1.objs vi with
      | some l => l.length ≤ lim ∧ compW We Wt [i] (guardOf vi l) l [] ⟨clrs σ1.vars [i], σ1.objs⟩ fun acc σ2 => mkW mu acc σ2.objs fun r objs => K r ⟨σ.vars, objs⟩
      | none => False)
    (fin : ∀ (D C : Addr) (r : SV) (ad' : AD) (objs' : List AO) (s' : Shared), K r ⟨σ.vars, objs'⟩ → Rep g (C :: os) ad' s'.heap r (.ref D) → Inv g (C :: os) own env nm wr ad' ⟨σ.vars, objs'⟩ s' → Step g [] ad s ad' s' → (∃ m, s'.heap.Ns C m) → s.heap.get? C = none →
      C ∉ os → (env.locals ≠ C ∧ ∀ a, NmCell env nm a → a ≠ C) → compPost (model g.prog g.w) A E use Q (.ref D) C (.ok .next) s') :
    wpAny (model g.prog g.w) A (comprehension (.ListComp ee [⟨.Name x px, ie, ifs, 0⟩] sc pos) sc env p0 (newList []) false (eval ie env) use) Q E s := by
  obtain ⟨cl, hclos, hcl1, hcl2⟩ := closure_ok (scope := sc) (env := env) fun p hp hf => by
    obtain ⟨⟨j, hj⟩, hko⟩ := Sc.free p hp hf
    have hnl : env.kindOf p.1 ≠ some .local := by rcases hko with q | q <;> rw [q] <;> decide
    obtain ⟨_, cc, ov, g3, _⟩ := I.F.cells p.1 j hj hnl
    exact ⟨cc, g3⟩
  refine wpAny_comprehension_free (use := use) (g := ⟨.Name x px, ie, ifs, 0⟩) (gs := []) rfl hs hclos Sc.kind Sc.loc ?_
  refine hi os own wr A ad σ s _ _ E hA I w fun xv vi ad1 σ1 s1 w1 rv I1 S1 => ?_
  cases hit : itemsOf σ1.objs vi with
  | none => simp only [hit] at w1
  | some l =>
    simp only [hit] at w1
    obtain ⟨hl, w1⟩ := w1
    have hg1 : guardOf vi l σ1.objs := by cases l <;> exact w1.1
    have F1 : FrOk g os own env nm wr ad1 σ.vars s1.heap := I.F.step I.H S1 (by simp) (by simp)
    refine iter_start I1.H rv hit hg1 fun it s2 m2 hf2 hl2 it2 => ?_
    refine wpAny_newList ?_ (by simp)
    have szf : ∀ H : Heap, H.get? H.objs.size = none := fun H => by
      cases q : H.get? H.objs.size with
      | none => rfl
      | some o => exact absurd (Heap.lt_size q) (Nat.lt_irrefl _)
    generalize hD : s2.heap.objs.size = D
    have hfD : s2.heap.get? D = none := hD ▸ szf _
    generalize hH3 : s2.heap.push { cls := .type "list", data := .seq ([] : List Value).toArray } = H3
    have eD3 : H3.get? D = some (lstObj [] 0) := by rw [← hH3, ← hD]; exact Heap.get?_push_size _ rfl
    have k23 : ∀ a o, s2.heap.get? a = some o → H3.get? a = some o := fun a o e => by rw [← hH3]; exact Heap.get?_push_of_some _ e
    refine wpAny_newFunctionEnv Sc.cell (by simp) (fun h4 hns hsb => ?_) Sc.kind
    simp only [List.length_nil, Nat.add_zero] at hns hsb ⊢
    generalize hC : H3.objs.size = C at hns hsb
    have hfC : H3.get? C = none := hC ▸ szf _
    have k34 : ∀ a o, H3.get? a = some o → h4.get? a = some o := fun a o e => hsb.extBut a o (none_ne e hfC) (Heap.get?_push_of_some _ e)
    have hCl : ∃ o, h4.get? C = some o := let ⟨o, _, _, e, _⟩ := hns; ⟨o, e⟩
    have hDl := k34 _ _ eD3
    obtain ⟨oi, eoi⟩ := hl2
    have hCD : D ≠ C := none_ne eD3 hfC
    have hiD : it ≠ D := none_ne eoi hfD
    have hiC : it ≠ C := none_ne (k23 _ _ eoi) hfC
    have hf1 : ∀ a ∈ [D, C, it], s1.heap.get? a = none := by
      intro a ha
      cases q : s1.heap.get? a with
      | none => rfl
      | some o =>
        have q2 := m2.keep _ _ q
        simp only [List.mem_cons, List.not_mem_nil, or_false] at ha
        rcases ha with rfl | rfl | rfl
        · rw [hfD] at q2; cases q2
        · rw [k23 _ _ q2] at hfC; cases hfC
        · rw [hf2] at q; cases q
    have M : Mono s1 { heap := h4, gens := s2.gens, drawn := s2.drawn, toks := s2.toks, os := s2.os } := ⟨fun a o e => k34 _ _ (k23 _ _ (m2.keep _ _ e)), m2.rest⟩
    have lv : ∀ a ∈ [D, C, it], ∃ o, h4.get? a = some o := by
      intro a ha
      simp only [List.mem_cons, List.not_mem_nil, or_false] at ha
      rcases ha with rfl | rfl | rfl
      · exact ⟨_, hDl⟩
      · exact hCl
      · exact ⟨_, k34 _ _ (k23 _ _ eoi)⟩
    generalize hs4 : ({ heap := h4, gens := s2.gens, drawn := s2.drawn, toks := s2.toks, os := s2.os } : Shared) = s4 at M
    have es4 : s4.heap = h4 := by rw [← hs4]
    have I4 : Inv g ([D, C, it] ++ os) own env nm wr ad1 ⟨σ.vars, σ1.objs⟩ s4 := ⟨I1.H.grow M hf1 (by rw [es4]; exact lv), F1.grow M hf1⟩
    have nC : ∀ a, NmCell env nm a → a ≠ D ∧ a ≠ C ∧ a ≠ it := fun a y => by
      obtain ⟨o, e⟩ := F1.live y
      exact ⟨none_ne e (hf1 D (by simp)), none_ne e (hf1 C (by simp)), none_ne e (hf1 it (by simp))⟩
    have nL : env.locals ≠ D ∧ env.locals ≠ C ∧ env.locals ≠ it := by
      obtain ⟨m, ⟨o, _, _, e, _⟩, _⟩ := F1.ns
      exact ⟨none_ne e (hf1 D (by simp)), none_ne e (hf1 C (by simp)), none_ne e (hf1 it (by simp))⟩
    have F1v : FrOk g os own env nm wr ad1 σ1.vars s1.heap := I1.F
    have FC : FrOk g ([D, C, it] ++ os) [C] (compEnvC sc cl C env) nm' (cwr sc) ad1 (σ1.vars.set i .unb) s4.heap :=
      comp_fr Sc (F1v.grow M hf1) (by simp) (by rw [es4]; simpa using hns) hcl1 fun a y => (nC a y).2.1
    have Icomp : Inv g ([D, C, it] ++ os) [C] (compEnvC sc cl C env) nm' (cwr sc) ad1 ⟨σ1.vars.set i .unb, σ1.objs⟩ s4 := ⟨I4.H, FC⟩
    have compC : ∀ a, NmCell (compEnvC sc cl C env) nm' a → a ≠ D ∧ a ≠ it := fun a ⟨y, j, h1, h2, h3⟩ => by
      rcases Sc.nms y j h1 with ⟨rfl, rfl⟩ | ⟨hf, hj, _⟩
      · exact (h2 (lookup_relabel_local Sc.xl)).elim
      · have hmem := mem_of_lookup hf
        have hko := (Sc.free _ hmem rfl).2
        have hnl : env.kindOf y ≠ some .local := by rcases hko with q | q <;> rw [show env.kindOf y = _ from q] <;> decide
        have h3' : cl.lookup y = some a := h3
        have := nC a ⟨y, j, hj, hnl, hcl2 _ _ h3'⟩
        exact ⟨this.1, this.2.2⟩
    have rv4 : Rep g ([D, C, it] ++ os) ad1 s4.heap vi xv := rv.stays (Stays.grow M hf1)
    have it4 : ItAt vi xv it 0 s4.heap := it2.keep fun o e => by rw [es4]; exact k34 _ _ (k23 _ _ e)
    have eD4 : s4.heap.get? D = some (lstObj [] 0) := by rw [es4]; exact hDl
    have hos : D ∉ os ∧ C ∉ os ∧ it ∉ os := by
      have z : ∀ a ∈ [D, C, it], a ∉ os := fun a ha hm => by
        obtain ⟨o, e⟩ := I1.H.live a hm
        rw [hf1 a ha] at e; cases e
      exact ⟨z D (by simp), z C (by simp), z it (by simp)⟩
    have loop : codeAny (model g.prog g.w) A (.compLoop (.ListComp ee [⟨.Name x px, ie, ifs, 0⟩] sc pos) 0 (.ref it) (.ref D) (compEnvC sc cl C env)) (compPost (model g.prog g.w) A E use Q (.ref D) C) s4 := by
      refine comp_loop (g := g) (N := N) (c := c) (ℓ := ℓ) (x := x) (i := i) (wrc := cwr sc) (nm' := nm') (adS := ad1) (sS := s4) (objs := σ1.objs) (objs' := σ1.objs) (vi := vi) (xv := xv) (os := [D, C, it] ++ os)
        (KK := fun acc σ2 => mkW mu acc σ2.objs fun r objs => K r ⟨σ.vars, objs⟩) hA (by simp [cwr, Sc.xl]) Sc.xi ⟨Ne.symm hCD, Ne.symm hiC, Ne.symm hiD⟩ compC (by simp [compEnvC]) hl hit I4.H (he cl C) (ht cl C) ?_
        l 0 ad1 _ s4 [] [] 0 (by simp) (by simp) w1 Icomp rv4 it4 eD4 RepL.nil (by simp) Step.refl
      intro ad5 σ5 s5 acc vs n k5 hg5 I5 hD5 ra5 S5 s6 kp rest6
      have n0D : D ∉ C :: it :: os := by simp [hCD, Ne.symm hiD, hos.1]
      -- what the loop leaves, seen from outside
      have T5 : Step g [] ad1 s1 ad5 s5 := by
        have a := (M.step (g := g) (own := [C, D, it]) (ad := ad1))
        have b := Step.trans (os := [D, C, it] ++ os) (objs := σ1.objs) (own := [C, D, it]) (I4.H) (by simp) I4.H Step.refl S5
        obtain ⟨e, rfl, hfe⟩ := b.ext
        refine ⟨⟨e, rfl, fun a ha => ?_⟩, fun a o h1 h2 h3 q => ?_, b.rest.1.trans M.rest.1, b.rest.2.trans M.rest.2⟩
        · cases q : s1.heap.get? a with
          | none => rfl
          | some o =>
            have := M.keep _ _ q
            rw [hfe a ha] at this; cases this
        · refine b.keep a o ?_ h2 h3 (M.keep _ _ q)
          simp only [List.mem_cons, List.not_mem_nil, or_false, not_or]
          exact ⟨none_ne q (hf1 C (by simp)), none_ne q (hf1 D (by simp)), none_ne q (hf1 it (by simp))⟩
      have F5 : FrOk g ([D, C, it] ++ os) own env nm wr ad5 σ.vars s5.heap :=
        I4.F.step I4.H (S5 : Step g [C, D, it] ad1 s4 ad5 s5) (own₂ := [C, D, it]) (by simp) ⟨by simp [nL], fun a y => by have := nC a y; simp [this]⟩
      -- the iterator's last turn
      have m6 : ∀ a o, a ≠ it → s5.heap.get? a = some o → s6.heap.get? a = some o := kp
      have J5 : Inv g (it :: D :: C :: os) own env nm wr ad5 ⟨σ.vars, σ5.objs⟩ s5 := by
        have st : Stays g ([D, C, it] ++ os) ad5 s5.heap (it :: D :: C :: os) ad5 s5.heap := by
          refine ⟨fun a o ⟨q, n⟩ => ⟨q, fun hm => n ?_⟩, fun _ _ e => e⟩
          rw [mem_mt] at hm ⊢
          refine hm.imp (fun y => ?_) id
          simp only [List.mem_cons, List.cons_append, List.nil_append] at y ⊢
          rcases y with y | y | y | y <;> simp [y]
        refine ⟨⟨I5.H.base, fun a ha => I5.H.fresh₀ a ?_, fun a ha => I5.H.live a ?_, I5.H.nodup, fun a ha => I5.H.ap1 a ?_, fun a ha => ⟨fun q => (I5.H.ap2 a ha).1 ?_, (I5.H.ap2 a ha).2⟩, fun a ha => let ⟨o, e, t⟩ := I5.H.tabs a ha; ⟨o, e, t.stays st⟩, I5.H.objs.1, fun j o p e1 e2 => (I5.H.objs.2 j o p e1 e2).stays st fun _ _ _ e => e⟩, F5.change st (fun a ha => by have := I.F.inOs a ha; simp [this]) fun _ _ e => e⟩
        · rw [mem_mt] at ha ⊢
          refine ha.imp (fun y => ?_) id
          simp only [List.mem_cons, List.cons_append, List.nil_append] at y ⊢
          rcases y with y | y | y | y <;> simp [y]
        · simp only [List.mem_cons, List.cons_append, List.nil_append] at ha ⊢
          rcases ha with y | y | y | y <;> simp [y]
        · simp only [List.mem_cons, List.cons_append, List.nil_append] at ha ⊢
          rcases ha with y | y | y | y <;> simp [y]
        · simp only [List.mem_cons, List.cons_append, List.nil_append] at q ⊢
          rcases q with y | y | y | y <;> simp [y]
      have r5 : RepL g (it :: D :: C :: os) ad5 s5.heap acc vs := by
        refine ra5.stays ⟨fun a o ⟨q, n⟩ => ⟨q, fun hm => n ?_⟩, fun _ _ e => e⟩
        rw [mem_mt] at hm ⊢
        refine hm.imp (fun y => ?_) id
        simp only [List.mem_cons, List.cons_append, List.nil_append] at y ⊢
        rcases y with y | y | y | y <;> simp [y]
      have J6 : Inv g (D :: C :: os) own env nm wr ad5 ⟨σ.vars, σ5.objs⟩ s6 := J5.dropMod (by simp [hiD, hiC, hos.2.2]) (fun a ha => by have := I.F.inOs a ha; simp [this]) ⟨nL.2.2, fun a y => (nC a y).2.2⟩ m6
      have r6 : RepL g (D :: C :: os) ad5 s6.heap acc vs := r5.stays (Stays.dropMod m6)
      have hD6 := m6 D _ (Ne.symm hiD) hD5
      obtain ⟨xr, ad7, objs7, k7, rx, H7, stp, st7, adr7⟩ := mkOk J6.H (by simp [hCD, hos.1]) hD6 r6 k5
      have T6 : Step g [] ad1 s1 ad5 s6 := ⟨T5.ext, fun a o h1 h2 h3 q => m6 a o (none_ne q (hf1 it (by simp))) (T5.keep a o h1 h2 h3 q), rest6.1.trans T5.rest.1, rest6.2.trans T5.rest.2⟩
      have T7 := stp s1 [] ad1 (hf1 D (by simp)) T6
      have F7 : FrOk g (C :: os) own env nm wr ad7 σ.vars s6.heap := J6.F.change st7 (fun a ha => by have := I.F.inOs a ha; simp [this]) fun a y n q => (adr7 a q).elim n (nC a y).1
      have hsC : s.heap.get? C = none := by
        cases q : s.heap.get? C with
        | none => rfl
        | some o =>
          by_cases hx : C ∈ mt g os ad
          · exfalso
            rcases mem_mt.mp hx with hm | hm | hm
            · exact hos.2.1 hm
            · obtain ⟨e, he', _⟩ := S1.ext
              have hm' : C ∈ adr ad1 := by rw [he', adr_append]; exact List.mem_append_left _ hm
              obtain ⟨o', e1⟩ := I1.H.objs.live C hm'
              rw [hf1 C (by simp)] at e1; cases e1
            · obtain ⟨o', e1, _⟩ := I1.H.tabs C hm
              rw [hf1 C (by simp)] at e1; cases e1
          · rw [mem_mt] at hx
            simp only [not_or] at hx
            have := S1.keep C o (by simp) hx.2.1 hx.2.2 q
            rw [hf1 C (by simp)] at this; cases this
      have ns6 : ∃ m, s6.heap.Ns C m := by
        obtain ⟨m, ⟨o, es, ep, q, r⟩, _⟩ := I5.F.ns
        exact ⟨m, o, es, ep, m6 _ _ (Ne.symm hiC) q, r⟩
      exact fin D C xr ad7 objs7 s6 k7 rx ⟨H7, F7⟩ (S1.trans I.H (by simp) I1.H T7) ns6 hsC hos.2.1 ⟨nL.2.1, fun a y => (nC a y).2.1⟩
    subst hs4
    exact codeAny_compStart_list loop (iter_self (isIt_of hit) it4 loop)
end
end Vc
end
section
open PySem PySem.W PyProof.Rows PySem.Calls
set_option maxRecDepth 100000
set_option autoImplicit false
set_option linter.unusedVariables false
set_option linter.unusedSectionVars false
namespace Vc
section
variable {g : G} {N : Nms} {c : C} {ℓ : Nat} {env : Env} {nm : List (Str × Nat)} {os own : List Addr} {wr : Str → Bool} {ad ad' : AD} {σ : St} {s s' : Shared} {A : Around} {E : Value → Shared → Prop} {Q : Value → Shared → Prop} {objs objs' : List AO} {h h' : Heap}

theorem adr_disj (nd : (adr ad).Nodup) {i j : Nat} {p q : Addr × Option Addr} {a : Addr} (h1 : ad[i]? = some p) (h2 : ad[j]? = some q) (hp : a ∈ p.1 :: p.2.toList) (hq : a ∈ q.1 :: q.2.toList) : i = j := by
  induction ad generalizing i j with
  | nil => simp at h1
  | cons x r ih =>
    have e : adr (x :: r) = (x.1 :: x.2.toList) ++ adr r := rfl
    rw [e, List.nodup_append] at nd
    have mem : ∀ {k : Nat} {z : Addr × Option Addr}, r[k]? = some z → a ∈ z.1 :: z.2.toList → a ∈ adr r := fun hk hz => by
      simp only [adr, List.mem_flatMap]
      exact ⟨_, List.mem_of_getElem? hk, hz⟩
    cases i with
    | zero =>
      simp at h1; subst h1
      cases j with
      | zero => rfl
      | succ j =>
        simp at h2
        exact (nd.2.2 a hp a (mem h2 hq) rfl).elim
    | succ i =>
      simp at h1
      cases j with
      | zero =>
        simp at h2; subst h2
        exact (nd.2.2 a hq a (mem h1 hp) rfl).elim
      | succ j =>
        simp at h2
        rw [ih nd.2.1 h1 h2]

/-- one thing that changes is another -/
theorem InvH.setObj {i : Nat} {o o' : AO} {p : Addr × Option Addr} (I : InvH g os ad objs s) (ho : objs[i]? = some o) (hp : ad[i]? = some p)
    (keep : ∀ a b, a ∉ p.1 :: p.2.toList → s.heap.get? a = some b → s'.heap.get? a = some b)
    (rest : s'.os = s.os ∧ s'.gens = s.gens)
    (at' : Stays g os ad s.heap os ad s'.heap → ObjAt g os ad s'.heap o' p) :
    InvH g os ad (objs.set i o') s' ∧ Step g [] ad s ad s' ∧ Stays g os ad s.heap os ad s'.heap := by
  have hin : ∀ a, a ∈ p.1 :: p.2.toList → a ∈ adr ad := fun a ha => by
    simp only [adr, List.mem_flatMap]
    exact ⟨_, List.mem_of_getElem? hp, ha⟩
  have S : Step g [] ad s ad s' := ⟨⟨[], by simp, by simp [adr]⟩, fun a b _ h2 _ e => keep a b (fun hm => h2 (hin a hm)) e, rest⟩
  have st := S.stays (os := os) (by simp)
  have nos : ∀ a, a ∈ os → a ∉ p.1 :: p.2.toList := fun a ha hm => I.ap1 a ha (hin a hm)
  have nt : ∀ a, a ∈ g.tabs → a ∉ p.1 :: p.2.toList := fun a ha hm => (I.ap2 a ha).2 (hin a hm)
  refine ⟨⟨fun a b e => keep a b (fun hm => ?_) (I.base a b e), I.fresh₀, fun a ha => ?_, I.nodup, I.ap1, I.ap2, fun a ha => ?_, by simpa using I.objs.1, fun j b q h1 h2 => ?_⟩, S, st⟩
  · rw [I.fresh₀ a (mem_mt.mpr (.inr (.inl (hin a hm))))] at e; cases e
  · obtain ⟨b, e⟩ := I.live a ha
    exact ⟨b, keep a b (nos a ha) e⟩
  · obtain ⟨b, e, t⟩ := I.tabs a ha
    exact ⟨b, keep a b (nt a ha) e, t.stays st⟩
  · by_cases hij : i = j
    · subst hij
      rw [List.getElem?_set_self (List.getElem?_eq_some_iff.mp ho).1] at h1
      cases h1
      rw [hp] at h2; cases h2
      exact at' st
    · rw [List.getElem?_set_ne hij] at h1
      exact (I.objs.2 j b q h1 h2).stays st fun a ha b' e => keep a b' (fun hm => hij (adr_disj I.nodup hp h2 hm ha)) e

/-- a list that changes -/
theorem InvH.setList {i : Nat} {l l' : List SV} {p : Addr × Option Addr} {vs vs' : List Value} {n : Nat} (I : InvH g os ad objs s) (ho : objs[i]? = some (.list l)) (hp : ad[i]? = some p)
    (hl : s.heap.get? p.1 = some (lstObj vs n)) (r : RepL g os ad s.heap l' vs') (f : Array Value → Array Value) (hf : f vs.toArray = vs'.toArray) :
    let s' : Shared := { s with heap := s.heap.update p.1 (Obj.mapSeq f) }
    InvH g os ad (objs.set i (.list l')) s' ∧ Step g [] ad s ad s' ∧ Stays g os ad s.heap os ad s'.heap := by
  intro s'
  refine I.setObj ho hp (fun a b hm e => ?_) ⟨rfl, rfl⟩ fun st => ?_
  · show (s.heap.update p.1 (Obj.mapSeq f)).get? a = some b
    rw [Heap.get?_update_other _ _ (fun q => hm (by simp [q]))]; exact e
  · obtain ⟨_, hp', h0, _⟩ := I.objs.get ho
    rw [hp] at hp'; cases hp'
    refine ⟨h0, vs', (if (f vs.toArray).size == vs.toArray.size then n else n + 1), ?_, r.stays st⟩
    have z := Heap.get?_update_self (Obj.mapSeq f) hl rfl
    rw [show (Obj.mapSeq f (lstObj vs n)) = lstObj vs' (if (f vs.toArray).size == vs.toArray.size then n else n + 1) from by unfold lstObj; rw [← hf]; rfl] at z
    exact z

/-- the name of a built-in method -/
def bmId : BM → String
  | .bitLength => "int.bit_length" | .toBytes => "int.to_bytes" | .fromBytes => "int.from_bytes" | .join => "bytes.join" | .append => "list.append" | .reverse => "list.reverse" | .pop => "list.pop"

abbrev PostC (g : G) (os : List Addr) (ad : AD) (s : Shared) (K : SV → List AO → Prop) (Q : Value → Shared → Prop) : Prop :=
  ∀ v r objs' ad' s', K r objs' → Rep g os ad' s'.heap r v → InvH g os ad' objs' s' → Step g [] ad s ad' s' → Q v s'

section
variable {K : SV → List AO → Prop} {i : Nat} {l : List SV} {p : Addr × Option Addr}
theorem bm_append {x : SV} {v : Value} (I : InvH g os ad objs s) (ho : objs[i]? = some (.list l)) (hp : ad[i]? = some p) (rx : Rep g os ad s.heap x v) (hl : l.length ≤ lim) (w : K .none (objs.set i (.list (l ++ [x])))) (post : PostC g os ad s K Q) :
    wpAny (model g.prog g.w) A (call (.builtin "list.append") [.ref p.1, v]) Q E s := by
  obtain ⟨_, hp', h0, vs, n, h1, h2⟩ := I.objs.get ho
  rw [hp] at hp'; cases hp'
  have hz : vs.toArray.size ≤ sizeLine := by rw [List.size_toArray]; exact wl h2 hl
  obtain ⟨H, S, st⟩ := I.setList ho hp h1 (h2.append (.one rx)) (fun z => z.push v) (by simp)
  refine call_meets PySem.F.slot_list_append ⟨_, h1, rfl⟩ PySem.F.entry_list_append (PySem.F.args_list_append_2 _ _) (list_append p.1 vs.toArray n v hz) ⟨h1, ?_⟩
  exact post _ _ _ _ _ w rfl H S
theorem bm_reverse (I : InvH g os ad objs s) (ho : objs[i]? = some (.list l)) (hp : ad[i]? = some p) (hl : l.length ≤ lim) (w : K .none (objs.set i (.list l.reverse))) (post : PostC g os ad s K Q) :
    wpAny (model g.prog g.w) A (call (.builtin "list.reverse") [.ref p.1]) Q E s := by
  obtain ⟨_, hp', h0, vs, n, h1, h2⟩ := I.objs.get ho
  rw [hp] at hp'; cases hp'
  have hz : vs.toArray.size ≤ sizeLine := by rw [List.size_toArray]; exact wl h2 hl
  obtain ⟨H, S, st⟩ := I.setList ho hp h1 h2.reverse (fun z => z.reverse) (by simp)
  refine call_meets PySem.F.slot_list_reverse ⟨_, h1, rfl⟩ PySem.F.entry_list_reverse (PySem.F.args_list_reverse_1 _) (AutoSeq1.list_reverse_list_0 p.1 vs.toArray n hz) ⟨h1, ?_⟩
  exact post _ _ _ _ _ w rfl H S
theorem bm_pop {x : SV} (I : InvH g os ad objs s) (ho : objs[i]? = some (.list l)) (hp : ad[i]? = some p) (hl : l.length ≤ lim) (hx : l.getLast? = some x) (w : K x (objs.set i (.list l.dropLast))) (post : PostC g os ad s K Q) :
    wpAny (model g.prog g.w) A (call (.builtin "list.pop") [.ref p.1]) Q E s := by
  obtain ⟨_, hp', h0, vs, n, h1, h2⟩ := I.objs.get ho
  rw [hp] at hp'; cases hp'
  have hz : vs.toArray.size ≤ sizeLine := by rw [List.size_toArray]; exact wl h2 hl
  have hlen := h2.length
  rw [List.getLast?_eq_getElem?] at hx
  obtain ⟨y, hy, ry⟩ := h2.get _ _ hx
  have hd : RepL g os ad s.heap l.dropLast vs.dropLast := by
    rw [List.dropLast_eq_take, List.dropLast_eq_take, hlen]; exact h2.take _
  obtain ⟨H, S, st⟩ := I.setList ho hp h1 hd (fun z => z.eraseIdxIfInBounds (vs.toArray.size - 1)) (by
    have hpos : 0 < vs.length := by have := (List.getElem?_eq_some_iff.mp hy).1; omega
    apply Array.ext'
    rw [List.size_toArray]
    simp only [Array.eraseIdxIfInBounds, List.size_toArray]
    rw [dif_pos (by omega)]
    simp only [List.eraseIdx_toArray, List.eraseIdx_eq_take_drop_succ, List.dropLast_eq_take]
    rw [show vs.length - 1 + 1 = vs.length by omega, List.drop_length, List.append_nil])
  refine call_meets PySem.F.slot_list_pop ⟨_, h1, rfl⟩ PySem.F.entry_list_pop (PySem.F.args_list_pop_1 _) (MeetsSeq.list_pop_last p.1 vs.toArray n y (by rw [List.size_toArray]; simpa [hlen] using hy) hz) ⟨h1, ?_⟩
  exact post _ _ _ _ _ w (ry.stays st) H S
end
end
end Vc
end
section
open PySem PySem.W PyProof.Rows PySem.Calls
set_option maxRecDepth 100000
set_option autoImplicit false
set_option linter.unusedVariables false
set_option linter.unusedSectionVars false
namespace Vc
section
variable {prog : Program} {w : World} {M : Model} {A : Around} {E : Value → Shared → Prop} {s : Shared}

theorem toBytesL_length : ∀ (k v : Nat), (toBytesL k v).length = k
  | 0, _ => rfl
  | k + 1, v => by simp [toBytesL, toBytesL_length k]
theorem toBytesL_lt : ∀ (k v : Nat), ∀ x ∈ toBytesL k v, x < 256
  | 0, _, x, h => by simp [toBytesL] at h
  | k + 1, v, x, h => by
    simp only [toBytesL, List.mem_cons] at h
    rcases h with rfl | h
    · exact Nat.mod_lt _ (by decide)
    · exact toBytesL_lt k _ x h
theorem toBytesL_get : ∀ (k v i : Nat), i < k → (toBytesL k v)[i]? = some (v / 256 ^ i % 256)
  | 0, _, _, h => by omega
  | k + 1, v, 0, _ => by simp [toBytesL]
  | k + 1, v, i + 1, h => by
    simp only [toBytesL, List.getElem?_cons_succ]
    rw [toBytesL_get k _ i (by omega), Nat.div_div_eq_div_mul, Nat.pow_succ, Nat.mul_comm 256]

theorem low_eq {v k : Nat} (h : v < 256 ^ k) : KTBy.low (v : Int) k = (toBytesL k v).map Nat.toUInt8 := by
  have e := KTBy.low_ints (x := (v : Int)) (n := k) (by omega) (by rw [KTBy.p256]; exact_mod_cast h)
  refine List.ext_getElem (by rw [KTBy.low_length, List.length_map, toBytesL_length]) fun i h1 h2 => ?_
  have hi : i < k := by simpa [toBytesL_length] using h2
  have e1 := congrArg (fun z : List Int => z[i]?) e
  simp only [List.getElem?_map, List.getElem?_eq_getElem h1, List.getElem?_range hi, Option.map_some, Option.some.injEq] at e1
  have e2 := toBytesL_get k v i hi
  rw [List.getElem?_eq_getElem (by rw [toBytesL_length]; exact hi)] at e2
  rw [List.getElem_map]
  simp only [Option.some.injEq] at e2
  rw [e2]
  apply UInt8.toNat.inj
  have e3 : ((KTBy.low (v : Int) k)[i].toNat : Int) = ((v / 256 ^ i % 256 : Nat) : Int) := by
    rw [e1, KTBy.p256]; rfl
  have e4 : (KTBy.low (v : Int) k)[i].toNat = v / 256 ^ i % 256 := by exact_mod_cast e3
  rw [e4]
  show _ = (UInt8.ofNat (v / 256 ^ i % 256)).toNat
  rw [UInt8.toNat_ofNat']
  omega

theorem to_bytes_ok {v k : Nat} {t u tv : Tok} {big : Bool} {Q : Value → Shared → Prop} (hk : k ≤ 1000) (hv : v < 256 ^ k)
    (h : ∀ t' k', Q (.bytes (bObj (if big then (toBytesL k v).reverse else toBytesL k v)) t') { s with toks := k' }) :
    wpAny (model prog w) A (call (.builtin "int.to_bytes") [.int (v : Int) t, .int (k : Int) u, .str (Str.ofString (if big then "big" else "little")) tv]) Q E s := by
  have hb := KTBy.bits_le (x := (v : Int)) (B := (256 : Int) ^ k) rfl (by omega) (by rw [KTBy.p256]; exact_mod_cast hv)
  refine wpAny_call_entry KTBy.slot (typeIs_int s (v : Int) t) KTBy.entry ?_ (KTBy.args _ _ _)
  show wpAny _ _ (Builtin.Int.intOfSelf (.int (v : Int) t) >>= fun y => _) _ _ s
  refine wpAny_bind (wpAny_of_eq (a := (v : Int)) rfl ?_)
  cases big
  · show wpAny _ _ (Builtin.Int.intBindNamed "to_bytes" ["length", "byteorder", "signed"] 0 2 [.int (k : Int) u, .str (Str.ofString "little") tv] [] >>= fun l => _) _ _ s
    refine wpAny_bind (wpAny_of_eq (a := [some (.int (k : Int) u), some (.str (Str.ofString "little") tv), none]) (by kernel_rfl) ?_)
    show wpAny _ _ (Builtin.Int.intIndex "int.to_bytes" (.int (k : Int) u) >>= fun n => _) _ _ s
    refine wpAny_bind (wpAny_of_eq (a := (k : Int)) rfl ?_)
    refine KTBy.if_not (by show (decide ((k : Int) < -(2 ^ 63 : Int)) || decide ((k : Int) ≥ 2 ^ 63)) = false; rw [decide_eq_false (show ¬ ((k : Int) < -(2 ^ 63 : Int)) by omega), decide_eq_false (show ¬ ((k : Int) ≥ 2 ^ 63) by omega)]; rfl) ?_
    refine wpAny_bind (wpAny_of_eq (a := Str.ofString "little") (by kernel_rfl) ?_)
    refine wpAny_bind (wpAny_of_eq (a := false) rfl ?_)
    refine wpAny_bind (wpAny_of_eq (a := true) (by kernel_rfl) ?_)
    refine wpAny_ite_false (decide_eq_false (show ¬ ((k : Int) < 0) by omega)) ?_
    refine wpAny_ite_false (decide_eq_false (show ¬ ((k : Int) > 2 ^ 63 - 1 - 33) by omega)) ?_
    refine wpAny_ite_false (decide_eq_false (show ¬ ((k : Int) > (sizeLine : Int)) by rw [sizeLine_eq]; omega)) ?_
    refine KTBy.if_not (by show (decide ((v : Int) < 0) && !false) = false; rw [decide_eq_false (show ¬ (v : Int) < 0 by omega)]; rfl) ?_
    refine KTBy.if_not (by show (_ && decide ((Builtin.Int.intBits (v : Int) : Int) > 8 * (k : Int))) = false; rw [decide_eq_false (show ¬ ((Builtin.Int.intBits (v : Int) : Int) > 8 * (k : Int)) by omega), Bool.and_false]) ?_
    refine wpAny_bind (wpAny_mkBytes (wpAny_pure ⟨_, rfl, ?_⟩) (by show (KTBy.low (v : Int) (Int.toNat (k : Int))).length ≤ sizeLine; rw [KTBy.low_length, Int.toNat_natCast, sizeLine_eq]; omega))
    have z := h s.toks (s.toks + 1)
    rw [show bObj (if false = true then (toBytesL k v).reverse else toBytesL k v) = (KTBy.low (v : Int) (Int.toNat (k : Int))).toArray from by rw [Int.toNat_natCast, low_eq hv]; rfl] at z
    exact z
  · show wpAny _ _ (Builtin.Int.intBindNamed "to_bytes" ["length", "byteorder", "signed"] 0 2 [.int (k : Int) u, .str (Str.ofString "big") tv] [] >>= fun l => _) _ _ s
    refine wpAny_bind (wpAny_of_eq (a := [some (.int (k : Int) u), some (.str (Str.ofString "big") tv), none]) (by kernel_rfl) ?_)
    show wpAny _ _ (Builtin.Int.intIndex "int.to_bytes" (.int (k : Int) u) >>= fun n => _) _ _ s
    refine wpAny_bind (wpAny_of_eq (a := (k : Int)) rfl ?_)
    refine KTBy.if_not (by show (decide ((k : Int) < -(2 ^ 63 : Int)) || decide ((k : Int) ≥ 2 ^ 63)) = false; rw [decide_eq_false (show ¬ ((k : Int) < -(2 ^ 63 : Int)) by omega), decide_eq_false (show ¬ ((k : Int) ≥ 2 ^ 63) by omega)]; rfl) ?_
    refine wpAny_bind (wpAny_of_eq (a := Str.ofString "big") (by kernel_rfl) ?_)
    refine wpAny_bind (wpAny_of_eq (a := false) rfl ?_)
    refine wpAny_bind (wpAny_of_eq (a := false) (by kernel_rfl) ?_)
    refine wpAny_ite_false (decide_eq_false (show ¬ ((k : Int) < 0) by omega)) ?_
    refine wpAny_ite_false (decide_eq_false (show ¬ ((k : Int) > 2 ^ 63 - 1 - 33) by omega)) ?_
    refine wpAny_ite_false (decide_eq_false (show ¬ ((k : Int) > (sizeLine : Int)) by rw [sizeLine_eq]; omega)) ?_
    refine KTBy.if_not (by show (decide ((v : Int) < 0) && !false) = false; rw [decide_eq_false (show ¬ (v : Int) < 0 by omega)]; rfl) ?_
    refine KTBy.if_not (by show (_ && decide ((Builtin.Int.intBits (v : Int) : Int) > 8 * (k : Int))) = false; rw [decide_eq_false (show ¬ ((Builtin.Int.intBits (v : Int) : Int) > 8 * (k : Int)) by omega), Bool.and_false]) ?_
    refine wpAny_bind (wpAny_mkBytes (wpAny_pure ⟨_, rfl, ?_⟩) (by show (List.reverse (KTBy.low (v : Int) (Int.toNat (k : Int)))).length ≤ sizeLine; rw [List.length_reverse, KTBy.low_length, Int.toNat_natCast, sizeLine_eq]; omega))
    have z := h s.toks (s.toks + 1)
    rw [show bObj (if true = true then (toBytesL k v).reverse else toBytesL k v) = (List.reverse (KTBy.low (v : Int) (Int.toNat (k : Int)))).toArray from by rw [Int.toNat_natCast, low_eq hv, ← List.map_reverse]; rfl] at z
    exact z

theorem grown_ok {n : Nat} {Q : Value → Shared → Prop} (hn : n < 2 ^ 100000) (h : Q (.int (n : Int) s.toks) { s with toks := s.toks + 1 }) : wpAny M A (mkIntGrown (n : Int)) Q E s := by
  unfold mkIntGrown
  have hl : ¬ ((n : Int).natAbs.log2 ≥ bitsLine) := by
    rw [Int.natAbs_natCast]
    have hb : bitsLine = 134217728 := by first | rfl | decide
    by_cases hz : n = 0
    · subst hz
      rw [hb]
      decide
    · have h1 := (Nat.log2_lt hz).mpr hn
      omega
  rw [if_neg hl]
  exact wpAny_mkInt h

theorem ofBytesL_lt : ∀ {l : List Nat}, (∀ x ∈ l, x < 256) → ofBytesL l < 256 ^ l.length
  | [], _ => by simp [ofBytesL]
  | x :: r, h => by
    have h1 := ofBytesL_lt (l := r) fun y hy => h y (by simp [hy])
    have h2 := h x (by simp)
    simp only [ofBytesL, List.length_cons, Nat.pow_succ]
    omega
theorem fold_of : ∀ (l : List Nat) (a : Nat), (∀ x ∈ l, x < 256) → (l.map Nat.toUInt8).foldl (fun (acc : Nat) (b : UInt8) => acc * 256 + b.toNat) a = a * 256 ^ l.length + ofBytesL l.reverse
  | [], a, _ => by simp [ofBytesL]
  | x :: r, a, h => by
    have hx := h x (by simp)
    have ap : ∀ (p q : List Nat), ofBytesL (p ++ q) = ofBytesL p + 256 ^ p.length * ofBytesL q := by
      intro p q
      induction p with
      | nil => simp [ofBytesL]
      | cons y p ih => simp only [List.cons_append, ofBytesL, ih, List.length_cons, Nat.pow_succ, Nat.mul_add]; rw [← Nat.mul_assoc, Nat.mul_comm 256 (256 ^ p.length), Nat.add_assoc]
    rw [List.map_cons, List.foldl_cons, fold_of r _ (fun y hy => h y (by simp [hy])), List.reverse_cons, ap, List.length_reverse, List.length_cons, Nat.pow_succ]
    have e : (Nat.toUInt8 x).toNat = x := by
      show (UInt8.ofNat x).toNat = x
      rw [UInt8.toNat_ofNat']; omega
    rw [e]
    simp only [ofBytesL]
    rw [Nat.add_mul, Nat.mul_assoc, Nat.mul_comm 256 (256 ^ r.length), Nat.mul_zero, Nat.add_zero, Nat.mul_comm x, Nat.add_assoc, Nat.add_comm (256 ^ r.length * x)]

theorem from_bytes_tree {b : List Nat} {t u : Tok} {big : Bool} {P : Fin → Shared → Prop} (hb : ∀ x ∈ b, x < 256) (hl : b.length ≤ 1000)
    (h : P (.done (.ret (.int ((ofBytesL (if big then b.reverse else b) : Nat) : Int) s.toks))) { s with toks := s.toks + 1 }) :
    wpAny M A (Builtin.«int.from_bytes» ⟨[.type "int", .bytes (bObj b) t, .str (Str.ofString (if big then "big" else "little")) u], []⟩) P E s := by
  have lt : ofBytesL (if big then b.reverse else b) < 2 ^ 100000 := by
    have h1 : ofBytesL (if big then b.reverse else b) < 256 ^ b.length := by
      cases big
      · exact ofBytesL_lt hb
      · have := ofBytesL_lt (l := b.reverse) (by simpa using hb)
        simpa using this
    have h2 : 256 ^ b.length ≤ 256 ^ 1000 := Nat.pow_le_pow_right (by decide) hl
    have h3 : (256 : Nat) ^ 1000 ≤ 2 ^ 100000 := by
      rw [show (256 : Nat) = 2 ^ 8 by rfl, ← Nat.pow_mul]
      exact Nat.pow_le_pow_right (by decide) (by decide)
    omega
  unfold Builtin.«int.from_bytes»
  refine wpAny_bind (wpAny_of_eq (a := true) KFB.type_int ?_)
  refine KFB.if_not rfl ?_
  refine wpAny_bind (wpAny_of_eq (a := true) F.conv_sub_int ?_)
  refine KFB.if_not rfl ?_
  cases big
  · refine wpAny_bind (wpAny_of_eq (a := [some (.bytes (bObj b) t), some (.str (Str.ofString "little") u), none]) (by kernel_rfl) ?_)
    refine wpAny_bind (wpAny_of_eq (a := Str.ofString "little") (by kernel_rfl) ?_)
    refine wpAny_bind (wpAny_of_eq (a := false) rfl ?_)
    refine wpAny_bind (wpAny_of_eq (a := true) (by kernel_rfl) ?_)
    refine wpAny_bind (wpAny_of_eq (a := bObj b) rfl ?_)
    show wpAny _ _ (mkIntGrown ((bObj b).toList.reverse.foldl (fun (acc : Int) (b : UInt8) => acc * 256 + (b.toNat : Int)) ((0 : Nat) : Int)) >>= fun v => _) _ _ _
    rw [KFB.foldI_eq]
    have e : (bObj b).toList.reverse.foldl (fun (acc : Nat) (b : UInt8) => acc * 256 + b.toNat) 0 = ofBytesL b := by
      rw [show (bObj b).toList.reverse = b.reverse.map Nat.toUInt8 from by simp [bObj], fold_of _ _ (by simpa using hb)]
      simp
    rw [e]
    refine wpAny_bind (grown_ok lt ?_)
    refine KFB.if_so (by decide +kernel) ?_
    exact wpAny_bind (wpAny_pure (wpAny_pure h))
  · refine wpAny_bind (wpAny_of_eq (a := [some (.bytes (bObj b) t), some (.str (Str.ofString "big") u), none]) (by kernel_rfl) ?_)
    refine wpAny_bind (wpAny_of_eq (a := Str.ofString "big") (by kernel_rfl) ?_)
    refine wpAny_bind (wpAny_of_eq (a := false) rfl ?_)
    refine wpAny_bind (wpAny_of_eq (a := false) (by kernel_rfl) ?_)
    refine wpAny_bind (wpAny_of_eq (a := bObj b) rfl ?_)
    show wpAny _ _ (mkIntGrown ((bObj b).toList.foldl (fun (acc : Int) (b : UInt8) => acc * 256 + (b.toNat : Int)) ((0 : Nat) : Int)) >>= fun v => _) _ _ _
    rw [KFB.foldI_eq]
    have e : (bObj b).toList.foldl (fun (acc : Nat) (b : UInt8) => acc * 256 + b.toNat) 0 = ofBytesL b.reverse := by
      rw [show (bObj b).toList = b.map Nat.toUInt8 from by simp [bObj], fold_of _ _ hb]
      simp
    rw [e]
    refine wpAny_bind (grown_ok lt ?_)
    refine KFB.if_so (by decide +kernel) ?_
    exact wpAny_bind (wpAny_pure (wpAny_pure h))

theorem from_bytes_getm {pl : Sem Bool} {Q : Value × List Value → Shared → Prop}
    (h : Q (.ref s.heap.objs.size, []) { s with heap := s.heap.push KFB.bound, toks := s.toks + 1 }) :
    wpAny (model prog w) A (getMethod (.type "int") (Str.ofString "from_bytes") pl) Q E s := by
  have X : Frag.In [] s.heap := fun a o e => by cases e
  have hstub : opaqueClassAbove (.type "int") = pure none := by unfold opaqueClassAbove; dsimp only; rw [show Manifest.isStub "int" = false by decide +kernel]; rfl
  have ht : typeOf (.type "int") = pure (.type "type") := by first | rfl | kernel_rfl
  have L0 : Looks (model prog w) s.heap (typeOf (.type "int")) (.type "type") := Looks.of_pure ht
  have hg : findIn [] (.type "type") "__getattribute__" = some (some (.builtin "type.__getattribute__")) := type_tga
  unfold getMethod specialOf
  refine wpAny_bind (wpAny_bind (L0.here ((looks_findIn X hg).here ?_)))
  dsimp only
  rw [if_pos canon_tga]
  refine wpAny_bind (wpAny_mono (Q := fun v => Q (v, [])) (E := E) ?_ (fun _ _ z => wpAny_pure z) fun _ _ z => z)
  have LO : Looks (model prog w) s.heap (opaqueClassAbove (.type "int")) none := Looks.of_pure hstub
  refine cls_open (r := .get (.builtin "classmethod_descriptor.__get__") (.builtin "int.from_bytes") .none (.type "int")) X LO L0 hg (looks_hook X (r := none) (by rfl)) (by rfl) (by rfl) ?_
  show wpAny _ _ (holding [.builtin "int.from_bytes"] (call (.builtin "classmethod_descriptor.__get__") [.builtin "int.from_bytes", .none, .type "int"]) >>= fun v => ret v) _ _ _
  refine wpAny_bind (wpAny_holding (wpAny_call_entry KFB.slot_get KFB.type_fb KFB.entry_get (KFB.run_get ⟨_, rfl, wpAny_pure (wpAny_pure h)⟩) (KFB.args_get _ _ _)))
end
end Vc
end
section
open PySem PySem.W PyProof.Rows PySem.Calls PySem.Builtin PySem.Builtin.Bytes
set_option maxRecDepth 100000
set_option autoImplicit false
set_option linter.unusedVariables false
set_option linter.unusedSectionVars false
namespace Vc
theorem sp_buf (b : Array UInt8) (t : Tok) : specialOf (.bytes b t) "__buffer__" = pure (some (.builtin "bytes.__buffer__")) := by
  unfold specialOf
  show (typeOf (.bytes b t) >>= fun c => typeLookup c "__buffer__") = _
  rw [show typeOf (.bytes b t) = pure (.type "bytes") from rfl, pure_bind, typeLookup_type, builtinLookup_eq_fast]; kernel_rfl
theorem sp_rel (b : Array UInt8) (t : Tok) : specialOf (.bytes b t) "__release_buffer__" = pure none := by
  unfold specialOf
  show (typeOf (.bytes b t) >>= fun c => typeLookup c "__release_buffer__") = _
  rw [show typeOf (.bytes b t) = pure (.type "bytes") from rfl, pure_bind, typeLookup_type, builtinLookup_eq_fast]; kernel_rfl
theorem is_bytes (b : Array UInt8) (t : Tok) : isInstance (.bytes b t) (.type "bytes") = pure true := by
  unfold isInstance
  rw [show typeOf (.bytes b t) = pure (.type "bytes") from rfl, pure_bind, isSubtype_type]; kernel_rfl
theorem slot_own (b : Array UInt8) (t : Tok) : slotIsOwn (.bytes b t) "__buffer__" = pure true := by
  unfold slotIsOwn
  rw [show specialOf (.bytes b t) (("__buffer__" : String) : Str) = pure (some (.builtin "bytes.__buffer__")) from sp_buf b t, pure_bind]
  simp only []
  rw [if_neg (by decide +kernel), show "bytes.__buffer__".dropRight ("__buffer__".length + 1) = "bytes" by decide +kernel]
  exact is_bytes b t
theorem own_rel (b : Array UInt8) (t : Tok) : ownRelease (.bytes b t) = pure false := by
  unfold ownRelease slotIsOwn
  rw [show specialOf (.bytes b t) (("__release_buffer__" : String) : Str) = pure none from sp_rel b t]
  rfl
theorem buf_eq (id : String) (b : Array UInt8) (t : Tok) (full : Bool) : buffer? id (.bytes b t) full = pure (some b) := by
  unfold buffer?
  rw [show specialOf (.bytes b t) (("__buffer__" : String) : Str) = pure (some (.builtin "bytes.__buffer__")) from sp_buf b t, pure_bind, slot_own, pure_bind]
  simp only [Bool.not_true, Bool.false_eq_true, if_false, pure_bind, own_rel]
  rfl
theorem take_eq (id : String) (b : Array UInt8) (t : Tok) (f : Int) : takeBuffer? id (.bytes b t) f = pure (some (b, none)) := by
  unfold takeBuffer?
  rw [show specialOf (.bytes b t) (("__buffer__" : String) : Str) = pure (some (.builtin "bytes.__buffer__")) from sp_buf b t, pure_bind, slot_own, pure_bind]
  simp only [Bool.not_true, Bool.false_eq_true, if_false, pure_bind, buf_eq]
  rfl
theorem slot_join : Slot "bytes" "join" "bytes.join" :=
  .of (owner := "bytes") (n := "join") (by rw [typeLookup_type, builtinLookup_eq_fast]; kernel_rfl) (by decide +kernel) (by decide +kernel) (by decide +kernel)
    (by first | exact .inl (by decide +kernel) | exact .inr (by decide +kernel)) (by rw [isSubtype_type]; kernel_rfl)
theorem type_join : typeOf (.builtin "bytes.join") = pure (.type "method_descriptor") := by show builtinType _ = _; rw [builtinType_eq_fast]; kernel_rfl
theorem entry_join : entryFor table "bytes.join" = some Builtin.«bytes.join» := entryFor_of_fast (by kernel_rfl)
theorem args_join (a b : Value) : argsOk "bytes.join" ⟨[a, b], []⟩ := by unfold argsOk; kernel_rfl

section
variable {prog : Program} {w : World} {M : Model} {A : Around} {E : Value → Shared → Prop} {s : Shared}

theorem wpAny_forRange {β : Type} {n : Nat} {f : Nat → β → Sem (ForInStep β)} {b : β} {Q : β → Shared → Prop} (I : Nat → β → Shared → Prop) (h0 : I 0 b s)
    (hs : ∀ i b s, i < n → I i b s → wpAny M A (f i b) (fun r s' => ∃ b', r = .yield b' ∧ I (i + 1) b' s') E s) (hQ : ∀ b s, I n b s → Q b s) :
    wpAny M A (forIn [0:n] b f) Q E s := by
  rw [Std.Legacy.Range.forIn_eq_forIn_range']
  show wpAny M A (forIn (List.range' 0 ([0:n] : Std.Legacy.Range).size 1) b f) Q E s
  have key : ∀ (m k : Nat) (b : β) (s : Shared), k + m = n → I k b s → wpAny M A (forIn (List.range' k m 1) b f) Q E s := by
    intro m
    induction m with
    | zero =>
      intro k b s hk hi
      have : k = n := by omega
      subst this
      rw [List.range'_zero, List.forIn_nil]
      exact wpAny_pure (hQ _ _ hi)
    | succ m ih =>
      intro k b s hk hi
      rw [List.range'_succ, List.forIn_cons]
      refine wpAny_bind (wpAny_mono (hs k b s (by omega) hi) (fun r s' hr => ?_) fun _ _ x => x)
      obtain ⟨b', rfl, hi'⟩ := hr
      exact ih (k + 1) b' s' (by omega) hi'
  have e : ([0:n] : Std.Legacy.Range).size = n := by simp [Std.Legacy.Range.size]
  rw [e]
  exact key n 0 b s (by omega) h0

theorem wpAny_quiet {id : String} {b : Array UInt8} {t : Tok} {f : Int} {Q : Option (Array UInt8 × Option Value) → Shared → Prop} (h : Q (some (b, none)) s) : wpAny M A (takeBufferQuiet? id (.bytes b t) f) Q E s := by
  unfold takeBufferQuiet?
  refine wpAny_bind (wpAny_attempt ?_)
  rw [take_eq]
  exact wpAny_pure (wpAny_pure h)

theorem wpAny_seqItems {a : Addr} {o : Obj} {xs : Array Value} {n : Nat} {Q : Option (Array Value) → Shared → Prop} (ho : s.heap.get? a = some o) (hd : o.data = .seq xs n) (h : Q (some xs) s) : wpAny M A (seqItems? (.ref a)) Q E s := by
  unfold seqItems?
  refine wpAny_bind (wpAny_load ho ?_)
  rw [hd]
  exact wpAny_pure h

theorem wpAny_joinLetGo {taken : List (Value × Option Value)} {keep : List Value} {Q : Unit → Shared → Prop} (ht : ∀ p ∈ taken, p.2 = none) (h : Q () s) : wpAny M A (joinLetGo taken keep) Q E s := by
  induction taken with
  | nil => exact wpAny_pure h
  | cons p r ih =>
    obtain ⟨x, u⟩ := p
    have hu : u = none := ht (x, u) (by simp)
    subst hu
    unfold joinLetGo
    exact wpAny_bind (wpAny_letGo (ih fun q hq => ht q (by simp [hq])))

/-- what is joined -/
def joinArr (sep : Array UInt8) (l : List (Array UInt8)) : Array UInt8 := joined sep l

theorem joined_eq (sep : List Nat) (l : List (List Nat)) : joined (bObj sep) (l.map bObj) = bObj (List.intercalate sep l) := by
  have key : ∀ (l : List (List Nat)) (k : Nat) (acc : List Nat), 0 < k → ((l.map bObj).zipIdx k).foldl (fun out (p, i) => (if i > 0 then out ++ bObj sep else out) ++ p) (bObj acc) = bObj (acc ++ (l.map (sep ++ ·)).flatten) := by
    intro l
    induction l with
    | nil => intro k acc _; simp
    | cons x r ih =>
      intro k acc hk
      rw [List.map_cons, List.zipIdx_cons, List.foldl_cons]
      simp only [gt_iff_lt, hk, if_true]
      rw [bObj_append, bObj_append, ih (k + 1) _ (by omega)]
      simp
  have inter : ∀ (x : List Nat) (r : List (List Nat)), List.intercalate sep (x :: r) = x ++ (r.map (sep ++ ·)).flatten := by
    intro x r
    induction r generalizing x with
    | nil => simp [List.intercalate]
    | cons y r ih =>
      have := ih y
      simp only [List.intercalate] at this ⊢
      rw [List.intersperse_cons_cons]
      simp only [List.flatten_cons, this, List.map_cons, List.append_assoc]
  unfold joined
  cases l with
  | nil => rfl
  | cons x r =>
    rw [List.map_cons, List.zipIdx_cons, List.foldl_cons]
    simp only [gt_iff_lt, Nat.lt_irrefl, if_false]
    have := key r 1 x (by omega)
    rw [show (#[] : Array UInt8) ++ bObj x = bObj x by simp]
    rw [this, inter]

theorem join_ok {a : Addr} {o : Obj} {vs : List Value} {ls : List (List Nat)} {sep : List Nat} {t : Tok} {n : Nat} {Q : Value → Shared → Prop} (ho : s.heap.get? a = some o) (hc : o.cls = .type "list") (hd : o.data = .seq vs.toArray n)
    (hl : vs.length = ls.length) (hv : ∀ (i : Nat) (b : List Nat), ls[i]? = some b → ∃ u, vs[i]? = some (Value.bytes (bObj b) u)) (hz : (sep.length + 1) * ls.length + ls.flatten.length ≤ lim)
    (h : ∀ u k, Q (.bytes (bObj (List.intercalate sep ls)) u) { s with toks := k }) :
    wpAny (model prog w) A (call (.builtin "bytes.join") [.bytes (bObj sep) t, .ref a]) Q E s := by
  have hT : s.TypeIs (.ref a) "list" := ⟨o, ho, hc⟩
  refine wpAny_call_entry slot_join (show s.TypeIs (.bytes (bObj sep) t) "bytes" from rfl) entry_join ?_ (args_join _ _)
  unfold Builtin.«bytes.join» joinM
  refine wpAny_bind (wpAny_of_eq (a := (Value.bytes (bObj sep) t, Value.ref a)) (by kernel_rfl) ?_)
  refine wpAny_bind (m := joinItems (.ref a)) ?_
  unfold joinItems
  refine wpAny_bind (wpAny_typeOf hT ?_)
  refine wpAny_pure ?_
  refine wpAny_bind (wpAny_seqItems ho hd ?_)
  have hop : (Value.bytes (bObj sep) t).onHeap = false := rfl
  by_cases h1 : vs.length = 1
  · obtain ⟨x, rfl⟩ := List.length_eq_one_iff.mp h1
    obtain ⟨b, rfl⟩ := List.length_eq_one_iff.mp (hl ▸ h1)
    obtain ⟨u, hu⟩ := hv 0 b rfl
    simp only [List.getElem?_cons_zero, Option.some.injEq] at hu
    subst hu
    show wpAny _ _ (typeOf (Value.bytes (bObj b) u) >>= fun t => _) _ _ s
    refine wpAny_bind (wpAny_of_eq (a := Value.type "bytes") rfl ?_)
    refine KFB.if_so (by decide +kernel) ?_
    refine wpAny_bind (wpAny_rule ?_)
    refine wpAny_pure ⟨_, rfl, ?_⟩
    have z := h u s.toks
    rw [show List.intercalate sep [b] = b by simp [List.intercalate]] at z
    exact z
  · have hsz : vs.toArray.size = ls.length := by rw [List.size_toArray, hl]
    rcases vs with _ | ⟨x, _ | ⟨y, r⟩⟩
    · obtain rfl : ls = [] := List.length_eq_zero_iff.mp (by simpa using hl.symm)
      refine wpAny_bind (m := forIn [0:0] ((#[], []) : Array (Array UInt8) × List (Value × Option Value)) _) (wpAny_forRange (I := fun i p s' => s' = s ∧ p = (#[], [])) ⟨rfl, rfl⟩ (fun i b s hi => by omega) fun p s' hp => ?_)
      obtain ⟨rfl, rfl⟩ := hp
      refine wpAny_bind (wpAny_of_eq (a := bObj sep) rfl ?_)
      refine KFB.if_not (by rfl) ?_
      refine wpAny_bind (wpAny_mkBytes ?_ (by show (#[] : Array UInt8).size ≤ sizeLine; exact Nat.zero_le _))
      refine wpAny_bind (wpAny_holding (wpAny_point ?_))
      refine wpAny_bind (wpAny_joinLetGo (by simp) ?_)
      exact wpAny_pure ⟨_, rfl, h _ _⟩
    · exact (h1 rfl).elim
    · refine wpAny_bind (m := forIn [0:(x :: y :: r).toArray.size] ((#[], []) : Array (Array UInt8) × List (Value × Option Value)) _) (wpAny_forRange (I := fun i p s' => s' = s ∧ p.1 = ((ls.take i).map bObj).toArray ∧ (∀ q ∈ p.2, q.2 = none ∧ q.1.onHeap = false)) ⟨rfl, by simp, by simp⟩ (fun i p s' hi hp => ?_) fun p s' hp => ?_)
      · obtain ⟨rfl, hp1, hp2⟩ := hp
        rw [hsz] at hi
        obtain ⟨u, hu⟩ := hv i ls[i] (List.getElem?_eq_getElem hi)
        refine wpAny_bind (wpAny_seqItems ho hd ?_)
        have hx : (x :: y :: r).toArray.getD i Value.none = Value.bytes (bObj ls[i]) u := by
          rw [Array.getD_eq_getD_getElem?, List.getElem?_toArray, hu]; rfl
        have ho : (p.2.any fun x => x.1.onHeap) = false := by
          rw [List.any_eq_false]
          intro q hq
          simp [(hp2 q hq).2]
        simp only [hx]
        refine KFB.if_not (by rw [ho]; rfl) ?_
        refine wpAny_bind (wpAny_holding (wpAny_quiet ?_))
        refine wpAny_bind (wpAny_seqItems ‹_› hd ?_)
        refine KFB.if_not (by simp) ?_
        refine wpAny_pure ⟨_, rfl, rfl, ?_, ?_⟩
        · show p.1.push (bObj ls[i]) = _
          rw [hp1, List.take_add_one, List.getElem?_eq_getElem hi, List.push_toArray, List.map_append]
          rfl
        · intro q hq
          rcases List.mem_append.mp hq with hq | hq
          · exact hp2 q hq
          · simp at hq; subst hq; exact ⟨rfl, rfl⟩
      · obtain ⟨rfl, hp1, hp2⟩ := hp
        rw [hsz, List.take_length] at hp1
        obtain ⟨parts, taken⟩ := p
        simp only at hp1 hp2
        subst hp1
        refine wpAny_bind (wpAny_of_eq (a := bObj sep) rfl ?_)
        have hsum : ∀ (m : List (List Nat)) (k : Nat), (m.map bObj).foldl (fun x1 x2 => x1 + x2.size) k = k + m.flatten.length := by
          intro m
          induction m with
          | nil => intro k; simp
          | cons z m ih => intro k; rw [List.map_cons, List.foldl_cons, ih, bObj_size, List.flatten_cons, List.length_append]; omega
        refine KFB.if_not ?_ ?_
        · show decide (_ > sizeLine) = false
          rw [decide_eq_false_iff_not, sizeLine_eq, ← Array.foldl_toList, List.toList_toArray, hsum, bObj_size, List.size_toArray, List.length_map]
          simp only [lim] at hz
          have : sep.length * (ls.length - 1) ≤ sep.length * ls.length := Nat.mul_le_mul_left _ (by omega)
          rw [Nat.add_mul] at hz
          omega
        have hj := joined_eq sep ls
        have hlen : (joined (bObj sep) (ls.map bObj)).size ≤ sizeLine := by
          rw [hj, bObj_size, sizeLine_eq]
          have hi : ∀ (m : List (List Nat)), (List.intercalate sep m).length ≤ sep.length * m.length + m.flatten.length := by
            intro m
            induction m with
            | nil => simp [List.intercalate]
            | cons z m ih =>
              cases m with
              | nil => simp [List.intercalate]
              | cons z' m =>
                have e : List.intercalate sep (z :: z' :: m) = z ++ sep ++ List.intercalate sep (z' :: m) := by simp [List.intercalate]
                rw [e]
                simp only [List.length_append, List.flatten_cons, List.length_cons, Nat.mul_add] at ih ⊢
                omega
          have := hi ls
          simp only [lim] at hz
          rw [Nat.add_mul] at hz
          omega
        refine wpAny_bind (wpAny_mkBytes ?_ (by rw [List.toList_toArray]; exact hlen))
        refine wpAny_bind (wpAny_holding (wpAny_point ?_))
        refine wpAny_bind (wpAny_joinLetGo (fun q hq => (hp2 q hq).1) ?_)
        refine wpAny_pure ⟨_, rfl, ?_⟩
        rw [List.toList_toArray, hj]
        exact h _ _
end
end Vc
end
section
open PySem PySem.W PyProof.Rows PySem.Calls
set_option maxRecDepth 100000
set_option autoImplicit false
set_option linter.unusedVariables false
set_option linter.unusedSectionVars false
namespace Vc
section
variable {g : G} {N : Nms} {c : C} {ℓ : Nat} {env : Env} {nm : List (Str × Nat)} {os own : List Addr} {wr : Str → Bool} {ad ad' : AD} {σ : St} {s s' : Shared} {A : Around} {E : Value → Shared → Prop} {Q : Value → Shared → Prop} {objs objs' : List AO} {h h' : Heap}

theorem side_of {x : Str} {b : Bool} (e : isSide x = some b) : x = Str.ofString (if b then "big" else "little") := by
  unfold isSide at e
  split at e
  · cases e; assumption
  · split at e
    · cases e; assumption
    · cases e

theorem bytesOf_rep : ∀ {l : List SV} {vs : List Value} {ls : List (List Nat)}, RepL g os ad h l vs → bytesOf l = some ls → vs.length = ls.length ∧ (∀ b ∈ ls, ∀ x ∈ b, x < 256) ∧ ∀ (i : Nat) (b : List Nat), ls[i]? = some b → ∃ u, vs[i]? = some (Value.bytes (bObj b) u)
  | [], vs, ls, r, e => by
    rw [show vs = [] from r]
    simp only [bytesOf, Option.some.injEq] at e
    subst e
    exact ⟨rfl, by simp, by simp⟩
  | .bytes b :: l, vs, ls, r, e => by
    obtain ⟨v, vr, rfl, ⟨hb, t, rfl⟩, q⟩ := r
    simp only [bytesOf, Option.map_eq_some_iff] at e
    obtain ⟨ls', e1, rfl⟩ := e
    obtain ⟨h1, h2, h3⟩ := bytesOf_rep q e1
    refine ⟨by simp [h1], by simpa using ⟨hb, h2⟩, fun i b' hi => ?_⟩
    cases i with
    | zero => simp at hi; subst hi; exact ⟨t, by simp⟩
    | succ i => simp at hi; simpa using h3 i b' hi
  | .unb :: _, _, _, _, e | .none :: _, _, _, _, e | .bool _ :: _, _, _, _, e | .str _ :: _, _, _, _, e | .int _ :: _, _, _, _, e | .tup _ :: _, _, _, _, e | .lst _ :: _, _, _, _, e
  | .dct _ _ :: _, _, _, _, e | .rng _ _ _ :: _, _, _, _, e | .ref _ :: _, _, _, _, e | .fn _ :: _, _, _, _, e | .clo _ _ :: _, _, _, _, e | .bi _ :: _, _, _, _, e | .ty _ :: _, _, _, _, e | .cls _ :: _, _, _, _, e => by simp [bytesOf] at e

theorem inter_lt {sep : List Nat} {ls : List (List Nat)} (h1 : ∀ x ∈ sep, x < 256) (h2 : ∀ b ∈ ls, ∀ x ∈ b, x < 256) : ∀ x ∈ List.intercalate sep ls, x < 256 := by
  intro x hx
  have key : ∀ (m : List (List Nat)), (∀ b ∈ m, ∀ x ∈ b, x < 256) → ∀ b ∈ List.intersperse sep m, ∀ x ∈ b, x < 256 := by
    intro m
    induction m with
    | nil => simp
    | cons z m ih =>
      intro hm
      cases m with
      | nil => simpa using hm
      | cons z' m =>
        rw [List.intersperse_cons_cons]
        intro b hb
        simp only [List.mem_cons] at hb
        rcases hb with rfl | rfl | hb
        · exact hm _ (by simp)
        · exact h1
        · exact ih (fun b hb => hm b (by simp [List.mem_cons.mp hb])) b hb
  obtain ⟨b, hb, hxb⟩ := List.mem_flatten.mp hx
  exact key ls h2 b hb x hxb

theorem RepL.one_inv {x : SV} {vs : List Value} (r : RepL g os ad h [x] vs) : ∃ v, vs = [v] ∧ Rep g os ad h x v := by
  obtain ⟨v, vr, rfl, q, q'⟩ := r
  rw [show vr = [] from q']
  exact ⟨v, rfl, q⟩
theorem RepL.two_inv {x y : SV} {vs : List Value} (r : RepL g os ad h [x, y] vs) : ∃ v w, vs = [v, w] ∧ Rep g os ad h x v ∧ Rep g os ad h y w := by
  obtain ⟨v, vr, rfl, q, q'⟩ := r
  obtain ⟨w, rfl, q2⟩ := q'.one_inv
  exact ⟨v, w, rfl, q, q2⟩
theorem RepL.three_inv {x y z : SV} {vs : List Value} (r : RepL g os ad h [x, y, z] vs) : ∃ v w u, vs = [v, w, u] ∧ Rep g os ad h x v ∧ Rep g os ad h y w ∧ Rep g os ad h z u := by
  obtain ⟨v, vr, rfl, q, q'⟩ := r
  obtain ⟨w, u, rfl, q2, q3⟩ := q'.two_inv
  exact ⟨v, w, u, rfl, q, q2, q3⟩

/-- a built-in method, the thing itself ahead of the arguments -/
theorem bmOk {b : BM} {vo : SV} {vs : List SV} {fv : Value} {l : List Value} {K : SV → List AO → Prop} (hb : b ≠ .fromBytes) (I : InvH g os ad objs s) (ra : Rep g os ad s.heap vo fv) (r : RepL g os ad s.heap vs l) (w : bmW b vo vs objs K) (post : PostC g os ad s K Q) :
    wpAny (model g.prog g.w) A (call (.builtin (bmId b)) (fv :: l)) Q E s := by
  unfold bmW at w
  split at w
  · -- bit_length
    obtain ⟨_, _, w⟩ := w
    rw [show l = [] from r]
    obtain ⟨t, rfl⟩ := ra
    exact call_int_bit_length (post _ _ _ _ _ w ⟨_, rfl⟩ (I.mono Mono.tok) Mono.tok.step)
  · -- to_bytes
    rename_i v k x
    obtain ⟨h1, h2, h3, h4, w⟩ := w
    obtain ⟨p, q, rfl, ⟨u, rfl⟩, ⟨u', rfl⟩⟩ := r.two_inv
    obtain ⟨t, rfl⟩ := ra
    split at w
    · rename_i big hs
      obtain ⟨n, rfl⟩ := Int.eq_ofNat_of_zero_le h3
      obtain ⟨m, rfl⟩ := Int.eq_ofNat_of_zero_le h1
      rw [side_of hs]
      simp only [Int.toNat_natCast] at h4 w
      refine to_bytes_ok (by omega) (by exact_mod_cast h4) fun t' k' => ?_
      refine post _ _ _ _ _ w ⟨?_, _, rfl⟩ (I.mono (Mono.tok (t := k'))) (Mono.tok (t := k')).step
      intro y hy
      cases big with
      | true => exact toBytesL_lt m n y (by simpa using hy)
      | false => exact toBytesL_lt m n y (by simpa using hy)
    · exact w.elim
  · exact (hb rfl).elim
  · -- join
    rename_i x l'
    obtain ⟨p, rfl, rp⟩ := r.one_inv
    obtain ⟨hx, t, rfl⟩ := ra
    cases hl : lOf objs l' with
    | none => simp only [hl, Option.bind_none] at w
    | some ls0 =>
      simp only [hl, Option.bind_some] at w
      cases hb' : bytesOf ls0 with
      | none => simp only [hb'] at w
      | some ls =>
        simp only [hb'] at w
        obtain ⟨a, vs, n, rfl, ha, ra⟩ := lOf_rep I rp hl
        obtain ⟨e1, e2, e3⟩ := bytesOf_rep ra hb'
        refine join_ok ha rfl rfl e1 e3 w.1 fun u k => ?_
        exact post _ _ _ _ _ w.2 ⟨inter_lt hx e2, _, rfl⟩ (I.mono (Mono.tok (t := k))) (Mono.tok (t := k)).step
  · -- append
    rename_i i x
    obtain ⟨p, rfl, rp⟩ := r.one_inv
    obtain ⟨q, hq, rfl⟩ := ra
    split at w
    · rename_i l' ho
      exact bm_append I ho hq rp w.1 w.2 post
    · exact w.elim
  · -- reverse
    rename_i i
    rw [show l = [] from r]
    obtain ⟨q, hq, rfl⟩ := ra
    split at w
    · rename_i l' ho
      exact bm_reverse I ho hq w.1 w.2 post
    · exact w.elim
  · -- pop
    rename_i i
    rw [show l = [] from r]
    obtain ⟨q, hq, rfl⟩ := ra
    split at w
    · rename_i l' ho
      obtain ⟨w0, w⟩ := w
      split at w
      · rename_i x hx
        exact bm_pop I ho hq w0 hx w post
      · exact w.elim
    · exact w.elim
  · exact w.elim

theorem bm_getm {b : BM} {vo : SV} {fv : Value} {pl : Sem Bool} {Q : Value × List Value → Shared → Prop} (hb : b ≠ .fromBytes) (I : InvH g os ad objs s) (ra : Rep g os ad s.heap vo fv) (w : bmPre b vo objs) (h : Q (.builtin (bmId b), [fv]) s) :
    wpAny (model g.prog g.w) A (getMethod fv (bmName b) pl) Q E s := by
  unfold bmPre at w
  have lst : ∀ {i : Nat} {P : Prop} {id : String} {name : Str}, Slot "list" name id → typeOf (.builtin id) = pure (.type "method_descriptor") → Rep g os ad s.heap (.ref i) fv → (match objs[i]? with | some (.list _) => True | _ => False) → Q (.builtin id, [fv]) s → wpAny (model g.prog g.w) A (getMethod fv name pl) Q E s := by
    intro i P id name slot ty ra w h
    obtain ⟨q, hq, rfl⟩ := ra
    split at w
    · rename_i l' ho
      obtain ⟨_, hp', h0, vs, n, h1, h2⟩ := I.objs.get ho
      rw [hq] at hp'; cases hp'
      exact getMethod_list_of slot ty (IsL_list h1) (Heap.NoDictAt.keeps (fun _ _ e => e) (by unfold Heap.NoDictAt; exact ⟨_, h1, rfl⟩)) h
    · exact w.elim
  split at w
  · obtain ⟨t, rfl⟩ := ra
    exact getMethod_int_bit_length h
  · obtain ⟨t, rfl⟩ := ra
    exact KTBy.method h
  · exact (hb rfl).elim
  · obtain ⟨_, t, rfl⟩ := ra
    exact getMethod_builtin (T := "bytes") (show s.TypeIs (.bytes _ t) "bytes" from rfl) FB.plainAttrs_bytes slot_join type_join (fun _ e => by cases e) h
  · exact lst (P := True) PySem.F.slot_list_append PySem.F.type_list_append ra w h
  · exact lst (P := True) PySem.F.slot_list_reverse PySem.F.type_list_reverse ra w h
  · exact lst (P := True) PySem.F.slot_list_pop PySem.F.type_list_pop ra w h
  · exact w.elim

theorem tr_bmeth {b : BM} {Wo : St → (SV → St → Prop) → Prop} {Wr : St → (List SV → St → Prop) → Prop} {o : Expr} {es : List Expr} {apos pos : Pos} (hb : notSuper o = true) (hn : noStar es = true) (hlen : es.length < 20) (hline : (apos.endLine == pos.line) = true)
    (ho : TrE g N c ℓ Wo env nm (eval o env)) (hr : TrL es.length g N c ℓ Wr env nm (spliced (es.map fun e => (false, eval e env)))) :
    TrE g N c ℓ (fun σ K => Wo σ fun vo σ1 => bmPre b vo σ1.objs ∧ Wr σ1 fun vs σ2 => bmW b vo vs σ2.objs fun r objs => K r ⟨σ2.vars, objs⟩) env nm (eval (.Call (.Attribute o (bmName b) apos) es [] pos) env) := by
  intro os own wr A ad σ s K Q E hA I w post
  refine Call_method hb hn hlen hline (ho os own wr A ad σ s _ _ E hA I w fun va a ad1 σ1 s1 w1 ra I1 S1 pl => ?_)
  obtain ⟨w0, w1⟩ := w1
  by_cases hf : b = .fromBytes
  · subst hf
    have e : a = .ty .int := by
      unfold bmPre at w0
      split at w0 <;> first | rfl | (rename_i h _; cases h) | (rename_i h; cases h) | exact w0.elim | skip
      all_goals first | rfl | (exact w0.elim) | contradiction
    subst e
    have : va = .type "int" := ra
    subst this
    refine from_bytes_getm ?_
    have m : Mono s1 { s1 with heap := s1.heap.push KFB.bound, toks := s1.toks + 1 } := Mono.push _ _
    have I2 := I1.mono m
    have hx : Fz g os ad1 (s1.heap.push KFB.bound) s1.heap.objs.size KFB.bound := fz_push I1.H rfl
    have ap : (es.map fun e => (false, eval e env)).any (·.1) = false := map_any es env
    refine KFB.callWith_fields ap (evalArgs_any ?_)
    refine hr os own wr A ad1 σ1 _ _ _ E hA I2 w1 fun vs l ad3 σ3 s3 w3 r3 I3 S3 hz => ?_
    have st := I2.sts S3
    refine ⟨(st.fz _ _ hx).1, ?_⟩
    simp only [List.nil_append]
    unfold bmW at w3
    split at w3
    · contradiction
    · contradiction
    · rename_i x z _ _
      obtain ⟨p, q, rfl, ⟨hx', u, rfl⟩, ⟨u', rfl⟩⟩ := r3.two_inv
      obtain ⟨h1, w3⟩ := w3
      split at w3
      · rename_i big hs
        rw [side_of hs]
        refine KFB.call_of (st.fz _ _ hx).1 (fun z => from_bytes_tree hx' h1 z) ?_
        exact post _ _ _ _ _ w3 ⟨_, rfl⟩ (I3.mono Mono.tok) (I.stp I3 (I.stp I2 (I.stp I1 S1 m.step) S3) Mono.tok.step)
      · exact w3.elim
    all_goals first | contradiction | exact w3.elim
  · refine bm_getm hf I1.H ra w0 ?_
    refine callWith_any (P := fun h => True) (fun h _ => keep_builtin _ h) ?_
    refine hr os own wr A ad1 σ1 s1 _ _ E hA I1 w1 fun vs l ad2 σ2 s2 w2 r2 I2 S2 hz => ⟨trivial, ?_⟩
    exact bmOk hf I2.H (ra.stays (I1.sts S2)) r2 w2 fun v r objs' ad' s' k rv H S => post _ _ _ _ _ k rv (I2.objs H S) (I.stp I2 (I.stp I1 S1 S2) S)
end
end Vc
end
section
open PySem PySem.W PyProof.Rows PySem.Calls
set_option maxRecDepth 100000
set_option autoImplicit false
set_option linter.unusedVariables false
set_option linter.unusedSectionVars false
namespace Vc
section
variable {g : G} {N : Nms} {c : C} {ℓ : Nat} {os : List Addr} {ad ad' : AD} {s s' : Shared} {A : Around} {E : Value → Shared → Prop} {Q : Value → Shared → Prop} {objs objs' : List AO} {K : SV → List AO → Prop} {h h' : Heap}

theorem len_ok {args : List SV} {vals : List Value} (I : InvH g os ad objs s) (r : RepL g os ad s.heap args vals)
    (w : callW c (.bi .len) args objs K) (post : PostC g os ad s K Q) : wpAny (model g.prog g.w) A (call (.builtin "len") vals) Q E s := by
  unfold callW at w
  simp only at w
  split at w
  · obtain ⟨v, rfl, hb, t, rfl⟩ := r.one_inv
    obtain ⟨h1, w⟩ := w
    simp only [lim] at h1
    refine len_bytes (by rw [bObj_size]; omega) ?_
    refine post _ _ _ _ _ w ⟨s.toks + 1, ?_⟩ (I.mono (Mono.tok (t := s.toks + 1 + 1))) (Mono.tok (t := s.toks + 1 + 1)).step
    rw [bObj_size]
  · obtain ⟨v, rfl, a, vs, n, rfl, hf, rl⟩ := r.one_inv
    obtain ⟨h1, w⟩ := w
    simp only [lim] at h1
    have hz := rl.length
    refine PySem.P.len_tuple hf.1 (by rw [List.size_toArray]; omega) ?_
    refine post _ _ _ _ _ w ⟨s.toks + 1, ?_⟩ (I.mono (Mono.tok (t := s.toks + 1 + 1))) (Mono.tok (t := s.toks + 1 + 1)).step
    rw [List.size_toArray, hz]
  · obtain ⟨v, rfl, rv⟩ := r.one_inv
    split at w
    · rename_i l hl
      obtain ⟨h1, w⟩ := w
      simp only [lim] at h1
      obtain ⟨a, vs, n, rfl, ha, rl⟩ := lOf_rep I rv hl
      have hz := rl.length
      refine call_len_list (IsL_list ha) (by rw [List.size_toArray]; omega) ?_
      refine post _ _ _ _ _ w ⟨s.toks + 1, ?_⟩ (I.mono (Mono.tok (t := s.toks + 1 + 1))) (Mono.tok (t := s.toks + 1 + 1)).step
      rw [List.size_toArray, hz]
    · exact w.elim
  · exact w.elim

theorem isinstance_ok {args : List SV} {vals : List Value} (I : InvH g os ad objs s) (r : RepL g os ad s.heap args vals)
    (w : callW c (.bi .isinstance) args objs K) (post : PostC g os ad s K Q) : wpAny (model g.prog g.w) A (call (.builtin "isinstance") vals) Q E s := by
  unfold callW at w
  simp only at w
  have sub : ∀ T : String, ∀ U : String, ∀ b : Bool, isSubtype (.type T) (.type U) = pure b → isSubtype (.type T) (.type U) = pure b := fun _ _ _ e => e
  split at w
  · obtain ⟨p, q, rfl, ⟨t, rfl⟩, rq⟩ := r.two_inv
    have : q = .type "int" := rq
    subst this
    exact call_isinstance_yes (Tx := "int") (T := "int") (typeIs_int s _ t) (by first | rfl | kernel_rfl) (by rw [isSubtype_type]; kernel_rfl) (post _ _ _ _ _ w rfl I Step.refl)
  · obtain ⟨p, q, rfl, ⟨_, t, rfl⟩, rq⟩ := r.two_inv
    have : q = .type "bytes" := rq
    subst this
    exact call_isinstance_yes (Tx := "bytes") (T := "bytes") (show s.TypeIs (.bytes _ t) "bytes" from rfl) (by first | rfl | kernel_rfl) (by rw [isSubtype_type]; kernel_rfl) (post _ _ _ _ _ w rfl I Step.refl)
  · obtain ⟨p, q, rfl, ⟨_, t, rfl⟩, rq⟩ := r.two_inv
    have : q = .type "str" := rq
    subst this
    refine call_isinstance_of ?_ (by intro e; cases e)
    obtain ⟨h, gg, d, tk, oss⟩ := s
    refine isinstance_nested_false_bytes (T := "str") (by decide) (by first | rfl | kernel_rfl) (by rw [isSubtype_type]; kernel_rfl) ?_
    exact post _ _ _ _ _ w rfl (I.mono (Mono.tok (t := tk + 1))) (Mono.tok (s := ⟨h, gg, d, tk, oss⟩) (t := tk + 1)).step
  · exact w.elim

theorem range_ok {args : List SV} {vals : List Value} (I : InvH g os ad objs s) (r : RepL g os ad s.heap args vals)
    (w : callW c (.ty .range) args objs K) (post : PostC g os ad s K Q) : wpAny (model g.prog g.w) A (call (.type "range") vals) Q E s := by
  unfold callW at w
  simp only at w
  split at w
  · obtain ⟨v, rfl, t, rfl⟩ := r.one_inv
    refine call_range_1 ?_
    have m : ∀ o, ∀ t, Mono s { s with heap := s.heap.push o, toks := t } := fun o t => Mono.push o t
    exact post _ _ _ _ _ w ⟨_, _, _, _, rfl, fz_push I rfl⟩ (I.mono (m _ _)) (m _ _).step
  · obtain ⟨p, q, rfl, ⟨t, rfl⟩, ⟨u, rfl⟩⟩ := r.two_inv
    refine call_range_2 ?_
    have m : ∀ o, ∀ t, Mono s { s with heap := s.heap.push o, toks := t } := fun o t => Mono.push o t
    exact post _ _ _ _ _ w ⟨_, _, _, _, rfl, fz_push I rfl⟩ (I.mono (m _ _)) (m _ _).step
  · obtain ⟨p, q, x, rfl, ⟨t, rfl⟩, ⟨u, rfl⟩, ⟨y, rfl⟩⟩ := r.three_inv
    obtain ⟨⟨h1, h2⟩, w⟩ := w
    refine call_range_3 h1 ?_ (Or.inl (PyProof.noPylong_small h2))
    have m : ∀ o, ∀ t, Mono s { s with heap := s.heap.push o, toks := t } := fun o t => Mono.push o t
    exact post _ _ _ _ _ w ⟨_, _, _, _, rfl, fz_push I rfl⟩ (I.mono (m _ _)) (m _ _).step
  · exact w.elim

theorem bytes_ok {args : List SV} {vals : List Value} (hA : A.handled = none) (I : InvH g os ad objs s) (r : RepL g os ad s.heap args vals)
    (w : callW c (.ty .bytes) args objs K) (post : PostC g os ad s K Q) : wpAny (model g.prog g.w) A (call (.type "bytes") vals) Q E s := by
  unfold callW at w
  simp only at w
  split at w
  · obtain ⟨v, rfl, rv⟩ := r.one_inv
    rename_i x
    cases hl : lOf objs x with
    | none => simp only [hl, Option.bind_none] at w
    | some l =>
      simp only [hl, Option.bind_some] at w
      split at w
      · rename_i ns hn
        obtain ⟨h1, h2, w⟩ := w
        obtain ⟨a, vs, n, rfl, ha, rl⟩ := lOf_rep I rv hl
        have hi := intsAre_of rl hn
        refine call_bytes_ints (IsL_list ha) hi h1 (by rw [hi.length, sizeLine_eq]; simp only [lim] at h2; omega) hA fun h' t k hk => ?_
        have m : Mono s { s with heap := h', toks := k } := ⟨hk, rfl, rfl⟩
        refine post _ _ _ _ _ w ⟨?_, t, ?_⟩ (I.mono m) m.step
        · intro y hy
          obtain ⟨z, hz, rfl⟩ := List.mem_map.mp hy
          have := h1 z hz
          omega
        · simp [byteArr, bObj, List.map_map, Function.comp_def]
      · exact w.elim
  · exact w.elim

theorem repL_of_items {a c : Int} {s : Heap} : ∀ {n : Nat} {acc : Array Value}, ItemsOf (fun i v => ∃ t, v = .int (a + i * c) t) acc n → RepL g os ad s ((List.range n).map fun (i : Nat) => SV.int (a + i * c)) acc.toList := by
  intro n acc ⟨h1, h2⟩
  obtain ⟨l⟩ := acc
  simp only [List.size_toArray] at h1
  have key : ∀ (l : List Value) (k : Nat) (l0 : List SV), l0.length = l.length → (∀ (j : Nat) (v : Value), l[j]? = some v → ∃ x, l0[j]? = some x ∧ Rep g os ad s x v) → RepL g os ad s l0 l := by
    intro l
    induction l with
    | nil => intro k l0 h _; rw [List.length_eq_zero_iff.mp h]; exact RepL.nil
    | cons v l ih =>
      intro k l0 h hr
      cases l0 with
      | nil => simp at h
      | cons x l0 =>
        obtain ⟨x', hx, rx⟩ := hr 0 v (by simp)
        simp at hx; subst hx
        exact RepL.cons rx (ih k l0 (by simpa using h) fun j v hj => by simpa using hr (j + 1) v (by simpa using hj))
  refine key l 0 _ (by simp [h1]) fun j v hj => ?_
  obtain ⟨t, rfl⟩ := h2 j v (by simpa using hj)
  have hj' : j < n := by
    have := (List.getElem?_eq_some_iff.mp hj).1
    omega
  exact ⟨.int (a + j * c), by simp [hj'], t, rfl⟩

theorem list_ok {args : List SV} {vals : List Value} (hA : A.handled = none) (I : InvH g os ad objs s) (r : RepL g os ad s.heap args vals)
    (w : callW c (.ty .list) args objs K) (post : PostC g os ad s K Q) : wpAny (model g.prog g.w) A (call (.type "list") vals) Q E s := by
  unfold callW at w
  simp only at w
  split at w
  · obtain ⟨v, rfl, a', t, u, x, rfl, hf⟩ := r.one_inv
    obtain ⟨h1, h2, w⟩ := w
    rename_i a b c'
    obtain ⟨n, hn⟩ : ∃ n : Nat, Builtin.Range.rangeSize a b c' = n := ⟨_, rangeSize_toNat a b c'⟩
    refine call_list_range hA hf.1 h1 hn (by rw [hn] at h2; simp only [lim] at h2; omega) fun h' tk acc' c2 hk he hi => ?_
    have m : Mono s { s with heap := h', toks := tk } := ⟨hk, rfl, rfl⟩
    have I' := I.mono m
    refine post _ _ _ _ _ w ⟨_, acc'.toList, c2, rfl, ⟨he, fun hm => ?_⟩, ?_⟩ I' m.step
    · obtain ⟨o', e⟩ := I.liveAll _ hm
      exact absurd (Heap.lt_size e) (Nat.lt_irrefl _)
    · unfold rngItems
      rw [hn, Int.toNat_natCast]
      exact repL_of_items hi
  · exact w.elim

theorem callW_ok (Sp : SpOk g N c ℓ) {f : SV} {args : List SV} {objs : List AO} {K : SV → List AO → Prop} (w : callW c f args objs K) : CallOk g ℓ f args objs K := by
  cases f with
  | fn k => simp only [callW] at w; exact Sp.fn k args objs K w.1 w.2
  | clo k caps => simp only [callW] at w; exact Sp.clo k caps args objs K w.1 w.2
  | cls k => simp only [callW] at w; exact Sp.cls k args objs K w.1 w.2
  | bi b =>
    intro A os ad s fv vals hA I rf r
    have : fv = .builtin b.id := rf
    subst this
    refine ⟨keep_builtin _ _, fun Q E post => ?_⟩
    cases b with
    | len => exact len_ok I r w post
    | isinstance => exact isinstance_ok I r w post
    | reduce => simp only [callW] at w
  | ty t =>
    intro A os ad s fv vals hA I rf r
    have : fv = .type t.name := rf
    subst this
    refine ⟨keep_type _ _, fun Q E post => ?_⟩
    cases t with
    | range => exact range_ok I r w post
    | bytes => exact bytes_ok hA.1 I r w post
    | list => exact list_ok hA.1 I r w post
    | _ => simp only [callW] at w
  | _ => simp only [callW] at w
end
end Vc
end
section
open PySem PySem.W PyProof.Rows PySem.Calls
set_option maxRecDepth 10000
set_option autoImplicit false
set_option linter.unusedVariables false
set_option linter.unusedSectionVars false
set_option maxHeartbeats 1000000
namespace Vc
theorem ckE_comp {N : Nms} {kd nm mu nm' elt i iter cond ee x px ie ifs a sc pos} (h : ckE N kd nm (.comp mu nm' elt [i] iter cond) (.ListComp ee [⟨.Name x px, ie, ifs, a⟩] sc pos) = true) :
   a = 0 ∧ compOk kd nm nm' sc = true ∧ (nm'.all fun p => p.1 == x || sc.names.lookup p.1 == some .free) = true ∧ nm'.lookup x = some i ∧ sc.names.lookup x = some .local ∧ ckE N kd nm iter ie = true ∧ ckE N (fun y => sc.names.lookup y) nm' elt ee = true ∧
   ((cond = .nop ∧ ifs = []) ∨ ∃ te, ifs = [te] ∧ ckE N (fun y => sc.names.lookup y) nm' cond te = true) := by
  rcases ifs with _ | ⟨te, _ | ⟨_, _⟩⟩ <;> cases cond <;> simp only [ckE, Bool.and_eq_true, beq_iff_eq, Bool.and_false, Bool.false_eq_true, and_true, and_false, true_and] at h
  · obtain ⟨⟨⟨⟨⟨⟨h0, h1⟩, h2⟩, h3⟩, h4⟩, h5⟩, h6⟩ := h
    exact ⟨h0, h1, h2, h3, h4, h5, h6, .inl ⟨rfl, rfl⟩⟩
  all_goals
    obtain ⟨⟨⟨⟨⟨⟨⟨h0, h1⟩, h2⟩, h3⟩, h4⟩, h5⟩, h6⟩, h7⟩ := h
    exact ⟨h0, h1, h2, h3, h4, h5, h6, .inr ⟨_, rfl, h7⟩⟩
section
variable {g : G} {N : Nms} {c : C} {ℓ : Nat} {env : Env} {nm nm' : List (Str × Nat)} {os os' own : List Addr} {wr : Str → Bool} {ad ad' ad'' : AD} {σ σ' σ'' : St} {s s' s'' : Shared} {A : Around} {E : Value → Shared → Prop} {objs objs' : List AO} {vars : List SV} {h h' : Heap} {sc : Scope} {x : Str} {i : Nat}

theorem tr_comp {ee ie : Expr} {px pos : Pos} {ifs : List Expr} {Wi We : St → (SV → St → Prop) → Prop} {Wt : St → (Bool → St → Prop) → Prop} {mu : Bool}
    (Sc : CompS env nm nm' sc x i) (hs : ∀ z, foldedSetIterable ie env z = pure z)
    (hi : TrE g N c ℓ Wi env nm (eval ie env))
    (he : ∀ cl C, TrE g N c ℓ We (compEnvC sc cl C env) nm' (eval ee (compEnvC sc cl C env)))
    (ht : ∀ cl C, TrT g N c ℓ Wt (compEnvC sc cl C env) nm' (forIn ifs true fun c r => if r = true then do let ok ← isTrue c (compEnvC sc cl C env) (eval c (compEnvC sc cl C env)); pure (ForInStep.yield ok) else pure (ForInStep.yield r))) :
    TrE g N c ℓ (fun σ K => Wi σ fun vi σ1 => match itemsOf σ1.objs vi with
      | some l => l.length ≤ lim ∧ compW We Wt [i] (guardOf vi l) l [] ⟨clrs σ1.vars [i], σ1.objs⟩ fun acc σ2 => mkW mu acc σ2.objs fun r objs => K r ⟨σ.vars, objs⟩
      | none => False) env nm (eval (.ListComp ee [⟨.Name x px, ie, ifs, 0⟩] sc pos) env) := by
  intro os own wr A ad σ s K Q E hA I w post
  rw [eval_ListComp]
  refine comp_ok (use := none) (Q := Q) (E := E) Sc hs hi he ht hA I w ?_
  intro D C r ad' objs' s' k rr I' S ⟨m, hm⟩ hf ho hn
  refine ⟨m, hm, fun h' hs' => ?_⟩
  have kp : ∀ a o, a ≠ C → s'.heap.get? a = some o → h'.get? a = some o := fun a o ha e => hs'.extBut a o ha e
  refine post _ _ _ _ _ k (rr.stays (Stays.dropMod kp)) (I'.dropMod (s' := { s' with heap := h' }) ho I.F.inOs hn kp) ⟨S.ext, fun a o h1 h2 h3 q => kp a o (none_ne q hf) (S.keep a o h1 h2 h3 q), S.rest⟩

/-- no set display, no slice -/
theorem ckE_shape {kd : Kd} {x : X} {e : Expr} (h : ckE N kd nm x e = true) : (∀ z, foldedSetIterable e env z = pure z) ∧ ∀ a b : Value, subscripted e false a b = operate [a, b] (getItem a b) := by
  cases e <;> first
    | exact ⟨fun _ => rfl, fun _ _ => rfl⟩
    | (cases x <;> simp [ckE] at h)

theorem evs_of : ∀ {es : List Expr}, noStar es = true → es.map (fun e => (false, eval e env)) = (es.map fun e => (false, eval e env)) := fun _ => rfl

/-- the conditions of a comprehension, looked at -/
theorem compS_of {kd : Kd} (hk : KdOk env kd) (h1 : compOk kd nm nm' sc = true) (h0 : (nm'.all fun p => p.1 == x || sc.names.lookup p.1 == some .free) = true) (h2 : nm'.lookup x = some i) (h3 : sc.names.lookup x = some .local) : CompS env nm nm' sc x i := by
  unfold compOk at h1
  simp only [Bool.and_eq_true, beq_iff_eq, decide_eq_true_eq, List.all_eq_true] at h1 h0
  obtain ⟨⟨⟨hkind, hnames⟩, hnm⟩, hnd⟩ := h1
  have hnms : ∀ y j, nm'.lookup y = some j → (y = x ∧ j = i) ∨ (sc.names.lookup y = some .free ∧ nm.lookup y = some j ∧ j ≠ i) := by
    intro y j hy
    have hm := mem_of_lookup hy
    have a := h0 _ hm
    have b := (hnm _ hm).2
    simp only [Bool.or_eq_true, beq_iff_eq, Bool.and_eq_true] at a b
    by_cases hyx : y = x
    · subst hyx
      rw [h2] at hy; cases hy
      exact .inl ⟨rfl, rfl⟩
    · rcases a with a | a
      · exact (hyx a).elim
      · rcases b with ⟨b, _⟩ | ⟨_, b⟩
        · rw [a] at b; cases b
        · refine .inr ⟨a, b, fun e => ?_⟩
          subst e
          have hm2 := mem_of_lookup h2
          have b2 := (hnm _ hm2).2
          simp only [Bool.or_eq_true, beq_iff_eq, Bool.and_eq_true, List.all_eq_true, bne_iff_ne, ne_eq] at b2
          rcases b2 with ⟨_, b2⟩ | ⟨b2, _⟩
          · exact b2 _ (mem_of_lookup b) rfl
          · rw [h3] at b2; cases b2
  refine ⟨hkind, fun p hp e => ?_, fun p hp e => ?_, fun p hp e => ?_, hnms, ?_, h2, h3⟩
  · have := (hnames p hp).1.1
    rw [e] at this; simp at this
  · have := (hnames p hp).1.2
    rw [e] at this; simpa using this
  · have := (hnames p hp).2
    rw [e] at this
    simp only [bne_self_eq_false, Bool.false_or, Bool.and_eq_true, Bool.or_eq_true, beq_iff_eq] at this
    obtain ⟨a, b⟩ := this
    exact ⟨Option.isSome_iff_exists.mp a, (hk p.1).2.2 b⟩
  · intro y z j hy hz
    have h := hnd
    have aux : ∀ (l : List (Str × Nat)) y z j, (l.map (·.2)).Nodup → l.lookup y = some j → l.lookup z = some j → y = z := by
      intro l
      induction l with
      | nil => intro y z j _ e; simp at e
      | cons p r ih =>
        intro y z j hn e1 e2
        simp only [List.map_cons, List.nodup_cons] at hn
        rw [List.lookup_cons] at e1 e2
        cases h1 : y == p.1 with
        | true =>
          rw [h1] at e1; cases e1
          cases h2 : z == p.1 with
          | true => rw [eq_of_beq h1, eq_of_beq h2]
          | false =>
            rw [h2] at e2
            exact (hn.1 (List.mem_map.mpr ⟨_, mem_of_lookup e2, rfl⟩)).elim
        | false =>
          rw [h1] at e1
          cases h2 : z == p.1 with
          | true =>
            rw [h2] at e2; cases e2
            exact (hn.1 (List.mem_map.mpr ⟨_, mem_of_lookup e1, rfl⟩)).elim
          | false => rw [h2] at e2; exact ih y z j hn.2 e1 e2
    exact aux nm' y z j hnd hy hz

theorem kd_comp {cl : List (Str × Addr)} {C : Addr} : KdOk (compEnvC sc cl C env) (fun y => sc.names.lookup y) := fun y =>
  ⟨fun h => relabel_glob h, fun h => lookup_relabel_local h, fun h => by
    rcases h with h | h
    · left
      show (relabel sc env).names.lookup y = _
      have : ∀ (names : List (Str × NameKind)), names.lookup y = some .cell → (names.map fun (n, k) => if (k == NameKind.free && env.scope.kind == .function && env.kindOf n == some .cell) then (n, NameKind.cell) else (n, k)).lookup y = some .cell := by
        intro names
        induction names with
        | nil => intro h; simp at h
        | cons p r ih =>
          obtain ⟨n, k⟩ := p
          intro h
          show List.lookup y ((if (k == NameKind.free && env.scope.kind == .function && env.kindOf n == some .cell) = true then (n, NameKind.cell) else (n, k)) :: _) = _
          cases hx : y == n with
          | true =>
            simp only [List.lookup_cons, hx] at h
            cases h
            simp [List.lookup_cons, hx]
          | false =>
            simp only [List.lookup_cons, hx] at h
            by_cases hc : (k == NameKind.free && env.scope.kind == .function && env.kindOf n == some .cell) = true
            · rw [if_pos hc]; simp only [List.lookup_cons, hx]; exact ih h
            · rw [if_neg hc]; simp only [List.lookup_cons, hx]; exact ih h
      exact this _ h
    · exact relabel_free h⟩
end

section
variable {g : G} {N : Nms} {c : C} {ℓ : Nat} (G0 : GOk g N c) (Sp : SpOk g N c ℓ) (hN : ∀ j, N.fname j = g.fname j) (hinj : ∀ f j, f < 9 → g.fname j = g.fname f → j = f)
include G0 Sp hN hinj
mutual
theorem okE : ∀ (x : X) (e : Expr) (kd : Kd) (nm : List (Str × Nat)) (env : Env), KdOk env kd → ckE N kd nm x e = true → TrE g N c ℓ (wpE c x) env nm (eval e env)
  | .lit v, e, kd, nm, env, hk, h => by
    cases e <;> simp only [ckE, Bool.false_eq_true] at h
    exact tr_lit h
  | .var i, e, kd, nm, env, hk, h => by
    cases e <;> simp only [ckE, Bool.false_eq_true] at h
    simp only [Bool.and_eq_true, beq_iff_eq, bne_iff_ne, ne_eq] at h
    exact tr_var h.1.1 (by simpa using h.1.2) (by simpa using h.2)
  | .glob k, e, kd, nm, env, hk, h => by
    cases e <;> simp only [ckE, Bool.false_eq_true] at h
    simp only [Bool.and_eq_true, beq_iff_eq, bne_iff_ne, ne_eq] at h
    exact tr_glob G0 ((hk _).1 h.1.1) h.1.2 (by simpa using h.2)
  | .bin op a b, e, kd, nm, env, hk, h => by
    cases e <;> simp only [ckE, Bool.false_eq_true] at h
    simp only [Bool.and_eq_true, beq_iff_eq] at h
    obtain ⟨⟨rfl, h1⟩, h2⟩ := h
    exact tr_bin (okE a _ kd nm env hk h1) (okE b _ kd nm env hk h2)
  | .neg a, e, kd, nm, env, hk, h => by
    cases e with
    | UnaryOp op e1 p =>
      cases op <;> simp only [ckE, Bool.false_eq_true] at h
      exact tr_neg (okE a _ kd nm env hk h)
    | _ => simp [ckE] at h
  | .not a, e, kd, nm, env, hk, h => by
    cases e with
    | UnaryOp op e1 p =>
      cases op <;> simp only [ckE, Bool.false_eq_true] at h
      exact tr_not (okE a _ kd nm env hk h)
    | _ => simp [ckE] at h
  | .bool op xs, e, kd, nm, env, hk, h => by
    cases e <;> simp only [ckE, Bool.false_eq_true] at h
    simp only [Bool.and_eq_true, beq_iff_eq] at h
    obtain ⟨rfl, h⟩ := h
    exact okB _ xs _ kd nm env _ hk h
  | .cmp a op b, e, kd, nm, env, hk, h => by
    cases e with
    | Compare l ops rs p =>
      match ops, rs, h with
      | [op'], [r], h =>
        simp only [ckE, Bool.and_eq_true, beq_iff_eq, Bool.not_eq_true'] at h
        obtain ⟨⟨⟨rfl, hm⟩, h1⟩, h2⟩ := h
        exact tr_cmp hm (okE a _ kd nm env hk h1) (okE b _ kd nm env hk h2)
      | [], _, h => simp [ckE] at h
      | _ :: _ :: _, _, h => simp [ckE] at h
      | [_], [], h => simp [ckE] at h
      | [_], _ :: _ :: _, h => simp [ckE] at h
    | _ => simp [ckE] at h
  | .cmp2 a o1 b o2 d, e, kd, nm, env, hk, h => by
    cases e with
    | Compare l ops rs p =>
      match ops, rs, h with
      | [p1, p2], [r1, r2], h =>
        simp only [ckE, Bool.and_eq_true, beq_iff_eq, Bool.not_eq_true'] at h
        obtain ⟨⟨⟨⟨⟨rfl, rfl⟩, hm⟩, h1⟩, h2⟩, h3⟩ := h
        exact tr_cmp2 hm (okE a _ kd nm env hk h1) (okE b _ kd nm env hk h2) (okE d _ kd nm env hk h3)
      | [], _, h => simp [ckE] at h
      | [_], _, h => simp [ckE] at h
      | _ :: _ :: _ :: _, _, h => simp [ckE] at h
      | [_, _], [], h => simp [ckE] at h
      | [_, _], [_], h => simp [ckE] at h
      | [_, _], _ :: _ :: _ :: _, h => simp [ckE] at h
    | _ => simp [ckE] at h
  | .ife t a b, e, kd, nm, env, hk, h => by
    cases e <;> simp only [ckE, Bool.false_eq_true] at h
    simp only [Bool.and_eq_true] at h
    exact tr_ife (okT t _ kd nm env hk h.1.1) (okE a _ kd nm env hk h.1.2) (okE b _ kd nm env hk h.2)
  | .call f xs, e, kd, nm, env, hk, h => by
    cases e with
    | Call fe es ks pos =>
      cases fe with
      | Name id p =>
        match ks, h with
        | [], h =>
          simp only [ckE, Bool.and_eq_true, decide_eq_true_eq] at h
          obtain ⟨⟨⟨h1, h2⟩, h3⟩, h4⟩ := h
          exact tr_call (callW_ok Sp) h1 (okE f _ kd nm env hk h3) (okEs xs _ kd nm env hk h4)
        | _ :: _, h => simp [ckE] at h
      | _ => simp [ckE] at h
    | _ => simp [ckE] at h
  | .bmeth b o xs, e, kd, nm, env, hk, h => by
    cases e with
    | Call fe es ks pos =>
      cases fe with
      | Attribute oe name apos =>
        match ks, h with
        | [], h =>
          simp only [ckE, Bool.and_eq_true, decide_eq_true_eq, beq_iff_eq] at h
          obtain ⟨⟨⟨⟨⟨⟨rfl, h1⟩, h2⟩, h3⟩, h4⟩, h5⟩, h6⟩ := h
          exact tr_bmeth h1 h2 h3 (by simpa using h4) (okE o _ kd nm env hk h5) (okEs xs _ kd nm env hk h6)
        | _ :: _, h => simp [ckE] at h
      | _ => simp [ckE] at h
    | _ => simp [ckE] at h
  | .meth m o xs, e, kd, nm, env, hk, h => by
    cases e with
    | Call fe es ks pos =>
      cases fe with
      | Attribute oe name apos =>
        match ks, h with
        | [], h =>
          simp only [ckE, Bool.and_eq_true, decide_eq_true_eq, beq_iff_eq] at h
          obtain ⟨⟨⟨⟨⟨⟨⟨h0, rfl⟩, h1⟩, h2⟩, h3⟩, h4⟩, h5⟩, h6⟩ := h
          exact tr_meth Sp hN h0 h1 h2 h3 (by simpa using h4) (okE o _ kd nm env hk h5) (okEs xs _ kd nm env hk h6)
        | _ :: _, h => simp [ckE] at h
      | _ => simp [ckE] at h
    | _ => simp [ckE] at h
  | .callA f o xs, e, kd, nm, env, hk, h => by
    cases e with
    | Call fe es ks pos =>
      cases fe with
      | Attribute oe name apos =>
        match ks, h with
        | [], h =>
          simp only [ckE, Bool.and_eq_true, decide_eq_true_eq, beq_iff_eq] at h
          obtain ⟨⟨⟨⟨⟨⟨⟨h0, rfl⟩, h1⟩, h2⟩, h3⟩, h4⟩, h5⟩, h6⟩ := h
          exact tr_callA Sp hN (callW_ok Sp) h0 (fun j => hinj f j h0) h1 h2 h3 (by simpa using h4) (okE o _ kd nm env hk h5) (okEs xs _ kd nm env hk h6)
        | _ :: _, h => simp [ckE] at h
      | _ => simp [ckE] at h
    | _ => simp [ckE] at h
  | .attr o f, e, kd, nm, env, hk, h => by
    cases e <;> simp only [ckE, Bool.false_eq_true] at h
    simp only [Bool.and_eq_true, beq_iff_eq, decide_eq_true_eq] at h
    obtain ⟨⟨⟨h0, rfl⟩, h1⟩, h2⟩ := h
    exact tr_attr Sp hN h0 (fun j => hinj f j h0) h1 (okE o _ kd nm env hk h2)
  | .sub o i, e, kd, nm, env, hk, h => by
    cases e with
    | Subscript oe ie pos =>
      have h' : ckE N kd nm o oe = true ∧ ckE N kd nm i ie = true := by
        cases ie <;> simpa only [ckE, Bool.and_eq_true] using h
      exact tr_sub (ckE_shape (env := env) h'.2).2 (okE o _ kd nm env hk h'.1) (okE i _ kd nm env hk h'.2)
    | _ => simp [ckE] at h
  | .slice o lo hi, e, kd, nm, env, hk, h => by
    cases e with
    | Subscript oe ie pos =>
      cases ie with
      | Slice l u st p =>
        cases st with
        | none =>
          simp only [ckE, Bool.and_eq_true] at h
          exact tr_slice (okE o _ kd nm env hk h.1.1) (okO lo _ kd nm env hk h.1.2) (okO hi _ kd nm env hk h.2)
        | some _ => simp [ckE] at h
      | _ => simp [ckE] at h
    | _ => simp [ckE] at h
  | .nop, e, kd, nm, env, hk, h => by cases e <;> simp [ckE] at h
  | .list mu xs, e, kd, nm, env, hk, h => by
    cases e <;> simp only [ckE, Bool.false_eq_true] at h
    simp only [Bool.and_eq_true] at h
    exact tr_list h.1 (okEs xs _ kd nm env hk h.2)
  | .tup xs, e, kd, nm, env, hk, h => by
    cases e <;> simp only [ckE, Bool.false_eq_true] at h
    simp only [Bool.and_eq_true, decide_eq_true_eq] at h
    exact tr_tup h.1.1 h.1.2 (okEs xs _ kd nm env hk h.2)
  | .comp mu nm' elt tg iter cond, e, kd, nm, env, hk, h => by
    cases e with
    | ListComp ee gens sc pos =>
      rcases tg with _ | ⟨i, _ | ⟨_, _⟩⟩
      · simp [ckE] at h
      · rcases gens with _ | ⟨⟨t, ie, ifs, a⟩, _ | ⟨_, _⟩⟩
        · simp [ckE] at h
        · cases t with
          | Name x px =>
                obtain ⟨rfl, h1, h0, h2, h3, h4, h5, h6⟩ := ckE_comp h
                have Sc := compS_of hk h1 h0 h2 h3
                have h4' := (ckE_shape (env := env) h4).1
                have hit := okE iter _ kd nm env hk h4
                have hel := fun cl C => okE elt _ _ nm' (compEnvC sc cl C env) kd_comp h5
                rcases h6 with ⟨rfl, rfl⟩ | ⟨te, rfl, h6⟩
                · refine tr_comp (Wt := fun σ K => K true σ) Sc h4' hit hel fun cl C => ?_
                  intro os own wr A ad σ s K Q E hA I w post
                  rw [List.forIn_nil]
                  exact wpAny_pure (post _ _ _ _ w I Step.refl)
                · have one : ∀ cl C, TrT g N c ℓ (wpT c cond (wpE c cond)) (compEnvC sc cl C env) nm' (forIn [te] true fun c r => if r = true then do let ok ← isTrue c (compEnvC sc cl C env) (eval c (compEnvC sc cl C env)); pure (ForInStep.yield ok) else pure (ForInStep.yield r)) := by
                    intro cl C os own wr A ad σ s K Q E hA I w post
                    rw [List.forIn_cons, if_pos rfl]
                    refine wpAny_bind (wpAny_bind (okT cond te _ nm' _ kd_comp h6 os own wr A ad σ s K _ E hA I w fun b ad' σ' s' k I' S' => wpAny_pure ?_))
                    show wpAny _ _ (forIn [] b _) _ _ _
                    rw [List.forIn_nil]
                    exact wpAny_pure (post _ _ _ _ k I' S')
                  have key := tr_comp (px := px) (pos := pos) (mu := mu) Sc h4' hit hel one
                  have hne : cond ≠ .nop := by
                    rintro rfl
                    clear key one hit hel
                    revert h6
                    cases te <;> simp [ckE]
                  rw [← condF_ne (W := wpT c cond (wpE c cond)) hne] at key
                  exact key
          | _ => simp [ckE] at h
        · cases t <;> simp [ckE] at h
      · simp [ckE] at h
    | _ =>
      rcases tg with _ | ⟨i, _ | ⟨_, _⟩⟩ <;> simp [ckE] at h
theorem okT : ∀ (x : X) (e : Expr) (kd : Kd) (nm : List (Str × Nat)) (env : Env), KdOk env kd → ckE N kd nm x e = true → TrT g N c ℓ (wpT c x (wpE c x)) env nm (isTrue e env (eval e env))
  | .not a, e, kd, nm, env, hk, h => by
    cases e with
    | UnaryOp op e1 p =>
      cases op <;> simp only [ckE, Bool.false_eq_true] at h
      exact tr_tnot (okT a _ kd nm env hk h)
    | _ => simp [ckE] at h
  | .bool op xs, e, kd, nm, env, hk, h => by
    cases e <;> simp only [ckE, Bool.false_eq_true] at h
    simp only [Bool.and_eq_true, beq_iff_eq] at h
    obtain ⟨rfl, h⟩ := h
    exact okTs _ xs _ kd nm env hk h
  | .cmp a op b, e, kd, nm, env, hk, h => by
    cases e with
    | Compare l ops rs p =>
      match ops, rs, h with
      | [op'], [r], h =>
        simp only [ckE, Bool.and_eq_true, beq_iff_eq, Bool.not_eq_true'] at h
        obtain ⟨⟨⟨rfl, hm⟩, h1⟩, h2⟩ := h
        exact tr_tcmp hm (okE a _ kd nm env hk h1) (okE b _ kd nm env hk h2)
      | [], _, h => simp [ckE] at h
      | _ :: _ :: _, _, h => simp [ckE] at h
      | [_], [], h => simp [ckE] at h
      | [_], _ :: _ :: _, h => simp [ckE] at h
    | _ => simp [ckE] at h
  | .cmp2 a o1 b o2 d, e, kd, nm, env, hk, h => by
    cases e with
    | Compare l ops rs p =>
      match ops, rs, h with
      | [p1, p2], [r1, r2], h =>
        simp only [ckE, Bool.and_eq_true, beq_iff_eq, Bool.not_eq_true'] at h
        obtain ⟨⟨⟨⟨⟨rfl, rfl⟩, hm⟩, h1⟩, h2⟩, h3⟩ := h
        exact tr_tcmp2 hm (okE a _ kd nm env hk h1) (okE b _ kd nm env hk h2) (okE d _ kd nm env hk h3)
      | [], _, h => simp [ckE] at h
      | [_], _, h => simp [ckE] at h
      | _ :: _ :: _ :: _, _, h => simp [ckE] at h
      | [_, _], [], h => simp [ckE] at h
      | [_, _], [_], h => simp [ckE] at h
      | [_, _], _ :: _ :: _ :: _, h => simp [ckE] at h
    | _ => simp [ckE] at h
  | .ife t a b, e, kd, nm, env, hk, h => by
    cases e <;> simp only [ckE, Bool.false_eq_true] at h
    simp only [Bool.and_eq_true] at h
    exact tr_tife (okT t _ kd nm env hk h.1.1) (okT a _ kd nm env hk h.1.2) (okT b _ kd nm env hk h.2)
  | .lit v, e, kd, nm, env, hk, h => by
    have z := okE (.lit v) e kd nm env hk h
    cases e <;> first | exact tr_truthy z | (simp [ckE] at h; done)
  | .var v, e, kd, nm, env, hk, h => by
    have z := okE (.var v) e kd nm env hk h
    cases e <;> first | exact tr_truthy z | (simp [ckE] at h; done)
  | .glob v, e, kd, nm, env, hk, h => by
    have z := okE (.glob v) e kd nm env hk h
    cases e <;> first | exact tr_truthy z | (simp [ckE] at h; done)
  | .bin o a b, e, kd, nm, env, hk, h => by
    have z := okE (.bin o a b) e kd nm env hk h
    cases e <;> first | exact tr_truthy z | (simp [ckE] at h; done)
  | .neg a, e, kd, nm, env, hk, h => by
    have z := okE (.neg a) e kd nm env hk h
    cases e with
    | UnaryOp op e1 p => cases op <;> first | exact tr_truthy z | (simp [ckE] at h; done)
    | _ => simp [ckE] at h
  | .call f xs, e, kd, nm, env, hk, h => by
    have z := okE (.call f xs) e kd nm env hk h
    cases e <;> first | exact tr_truthy z | (simp [ckE] at h; done)
  | .bmeth b f xs, e, kd, nm, env, hk, h => by
    have z := okE (.bmeth b f xs) e kd nm env hk h
    cases e <;> first | exact tr_truthy z | (simp [ckE] at h; done)
  | .meth b f xs, e, kd, nm, env, hk, h => by
    have z := okE (.meth b f xs) e kd nm env hk h
    cases e <;> first | exact tr_truthy z | (simp [ckE] at h; done)
  | .callA b f xs, e, kd, nm, env, hk, h => by
    have z := okE (.callA b f xs) e kd nm env hk h
    cases e <;> first | exact tr_truthy z | (simp [ckE] at h; done)
  | .attr f xs, e, kd, nm, env, hk, h => by
    have z := okE (.attr f xs) e kd nm env hk h
    cases e <;> first | exact tr_truthy z | (simp [ckE] at h; done)
  | .sub f xs, e, kd, nm, env, hk, h => by
    have z := okE (.sub f xs) e kd nm env hk h
    cases e <;> first | exact tr_truthy z | (simp [ckE] at h; done)
  | .slice f a b, e, kd, nm, env, hk, h => by
    have z := okE (.slice f a b) e kd nm env hk h
    cases e <;> first | exact tr_truthy z | (simp [ckE] at h; done)
  | .nop, e, kd, nm, env, hk, h => by cases e <;> simp [ckE] at h
  | .list f xs, e, kd, nm, env, hk, h => by
    have z := okE (.list f xs) e kd nm env hk h
    cases e <;> first | exact tr_truthy z | (simp [ckE] at h; done)
  | .tup xs, e, kd, nm, env, hk, h => by
    have z := okE (.tup xs) e kd nm env hk h
    cases e <;> first | exact tr_truthy z | (simp [ckE] at h; done)
  | .comp mu nm' elt tg iter cond, e, kd, nm, env, hk, h => by
    have z := okE (.comp mu nm' elt tg iter cond) e kd nm env hk h
    cases e <;> first | exact tr_truthy z | (rcases tg with _ | ⟨i, _ | ⟨_, _⟩⟩ <;> simp [ckE] at h; done)
theorem okO : ∀ (x : X) (e : Option Expr) (kd : Kd) (nm : List (Str × Nat)) (env : Env), KdOk env kd → ckO N kd nm x e = true → TrE g N c ℓ (wpE c x) env nm (evalPart e env)
  | x, some e, kd, nm, env, hk, h => by
    have h' : ckE N kd nm x e = true := by cases x <;> exact h
    exact okE x e kd nm env hk h'
  | .nop, none, kd, nm, env, hk, h => by
    intro os own wr A ad σ s K Q E hA I w post
    rw [evalPart_none]
    exact wpAny_pure (post _ _ _ _ _ w rfl I Step.refl)
  | .lit _, none, kd, nm, env, hk, h | .var _, none, kd, nm, env, hk, h | .glob _, none, kd, nm, env, hk, h | .bin _ _ _, none, kd, nm, env, hk, h | .neg _, none, kd, nm, env, hk, h | .not _, none, kd, nm, env, hk, h | .bool _ _, none, kd, nm, env, hk, h
  | .cmp _ _ _, none, kd, nm, env, hk, h | .cmp2 _ _ _ _ _, none, kd, nm, env, hk, h | .ife _ _ _, none, kd, nm, env, hk, h | .call _ _, none, kd, nm, env, hk, h | .bmeth _ _ _, none, kd, nm, env, hk, h | .meth _ _ _, none, kd, nm, env, hk, h | .attr _ _, none, kd, nm, env, hk, h
  | .sub _ _, none, kd, nm, env, hk, h | .slice _ _ _, none, kd, nm, env, hk, h | .list _ _, none, kd, nm, env, hk, h | .tup _, none, kd, nm, env, hk, h | .comp _ _ _ _ _ _, none, kd, nm, env, hk, h => by simp [ckO] at h
theorem okEs : ∀ (xs : Xs) (es : List Expr) (kd : Kd) (nm : List (Str × Nat)) (env : Env), KdOk env kd → ckEs N kd nm xs es = true → TrL es.length g N c ℓ (wpEs c xs) env nm (spliced (es.map fun e => (false, eval e env)))
  | .nil, [], kd, nm, env, hk, h => tr_nil
  | .nil, _ :: _, kd, nm, env, hk, h => by simp [ckEs] at h
  | .cons _ _, [], kd, nm, env, hk, h => by simp [ckEs] at h
  | .cons x r, e :: es, kd, nm, env, hk, h => by
    simp only [ckEs, Bool.and_eq_true] at h
    exact tr_cons (okE x e kd nm env hk h.1) (okEs r es kd nm env hk h.2)
theorem okB (op : BoolOp) : ∀ (xs : Xs) (es : List Expr) (kd : Kd) (nm : List (Str × Nat)) (env : Env) (pos : Pos), KdOk env kd → ckEs N kd nm xs es = true → TrE g N c ℓ (wpB c op xs) env nm (boolOp pos op (evalEach es env))
  | .nil, es, kd, nm, env, pos, hk, h => by
    intro os own wr A ad σ s K Q E hA I w post
    exact w.elim
  | .cons _ _, [], kd, nm, env, pos, hk, h => by simp [ckEs] at h
  | .cons x .nil, [e], kd, nm, env, pos, hk, h => by
    simp only [ckEs, Bool.and_eq_true] at h
    exact tr_bool1 (okE x e kd nm env hk h.1)
  | .cons _ .nil, _ :: _ :: _, kd, nm, env, pos, hk, h => by simp [ckEs] at h
  | .cons _ (.cons _ _), [_], kd, nm, env, pos, hk, h => by simp [ckEs] at h
  | .cons x (.cons y r), e :: e' :: es, kd, nm, env, pos, hk, h => by
    have h' : ckE N kd nm x e = true ∧ ckEs N kd nm (.cons y r) (e' :: es) = true := by simpa only [ckEs, Bool.and_eq_true] using h
    exact tr_bool2 (okE x e kd nm env hk h'.1) (okB op (.cons y r) (e' :: es) kd nm env pos hk h'.2)
theorem okTs (op : BoolOp) : ∀ (xs : Xs) (es : List Expr) (kd : Kd) (nm : List (Str × Nat)) (env : Env), KdOk env kd → ckEs N kd nm xs es = true → TrT g N c ℓ (wpTs c op xs) env nm (allTrue op es env)
  | .nil, [], kd, nm, env, hk, h => tr_all0
  | .nil, _ :: _, kd, nm, env, hk, h => by simp [ckEs] at h
  | .cons _ _, [], kd, nm, env, hk, h => by simp [ckEs] at h
  | .cons x r, e :: es, kd, nm, env, hk, h => by
    simp only [ckEs, Bool.and_eq_true] at h
    exact tr_all1 (okT x e kd nm env hk h.1) (okTs op r es kd nm env hk h.2)
end
end
end Vc
end
section
open PySem PySem.W PyProof.Rows PySem.Calls
set_option maxRecDepth 10000
set_option autoImplicit false
set_option linter.unusedVariables false
set_option linter.unusedSectionVars false
namespace Vc

def FlRep (g : G) (os : List Addr) (ad : AD) (h : Heap) : Flow → Fl → Prop
  | .next, .next => True
  | .brk, .brk => True
  | .cont, .cont => True
  | .ret v, .ret x => Rep g os ad h x v
  | _, _ => False

section
variable {g : G} {N : Nms} {c : C} {ℓ : Nat} {env : Env} {nm : List (Str × Nat)} {os os' own : List Addr} {wr : Str → Bool} {ad ad' ad'' : AD} {σ σ' σ'' : St} {s s' s'' : Shared} {A : Around} {E : Value → Shared → Prop} {objs objs' : List AO} {vars : List SV} {h h' : Heap}

theorem FlRep.stays (S : Stays g os ad h os' ad' h') {f : Flow} {fl : Fl} (r : FlRep g os ad h f fl) : FlRep g os' ad' h' f fl := by
  cases f <;> cases fl <;> first | exact r | exact Rep.stays S _ _ r

abbrev PostS (g : G) (os own : List Addr) (env : Env) (nm : List (Str × Nat)) (wr : Str → Bool) (ad : AD) (s : Shared) (K : Fl → St → Prop) (Q : Flow → Shared → Prop) : Prop :=
  ∀ f fl ad' σ' s', K fl σ' → FlRep g os ad' s'.heap f fl → Inv g os own env nm wr ad' σ' s' → Step g own ad s ad' s' → Q f s'
def TrS (g : G) (N : Nms) (c : C) (ℓ : Nat) (W : St → (Fl → St → Prop) → Prop) (env : Env) (nm : List (Str × Nat)) (wr : Str → Bool) (t : Sem Flow) : Prop :=
  ∀ os own A ad σ s K Q E, AOk A ℓ → Inv g os own env nm wr ad σ s → W σ K → PostS g os own env nm wr ad s K Q → wpAny (model g.prog g.w) A t Q E s

theorem Step.toOwn (S : Step g [] ad s ad' s') : Step g own ad s ad' s' := S.weaken (by simp)
theorem Inv.stO (I : Inv g os own env nm wr ad σ s) (S : Step g own ad s ad' s') : Stays g os ad s.heap os ad' s'.heap := S.stays I.F.inOs
theorem Inv.tr (I : Inv g os own env nm wr ad σ s) (I' : Inv g os own env nm wr ad' σ' s') (S : Step g own ad s ad' s') (S' : Step g own ad' s' ad'' s'') : Step g own ad s ad'' s'' := S.trans I.H I.F.inOs I'.H S'

/-- names that are stored, one after the other -/
def ckN (nm : List (Str × Nat)) (wr : Str → Bool) : List Nat → List Expr → Bool
  | [], [] => true
  | i :: is, .Name x _ :: ts => nm.lookup x == some i && wr x && ckN nm wr is ts
  | _, _ => false
theorem ckN_len : ∀ {is : List Nat} {ts : List Expr}, ckN nm wr is ts = true → ts.length = is.length
  | [], [], _ => rfl
  | i :: is, .Name x _ :: ts, h => by
    simp only [ckN, Bool.and_eq_true] at h
    simp [ckN_len h.2]
  | [], _ :: _, h => by simp [ckN] at h
  | _ :: _, [], h => by simp [ckN] at h

theorem storeN_ok {x : Str} {i : Nat} {v : Value} {y : SV} {Q : Unit → Shared → Prop} (I : Inv g os own env nm wr ad σ s) (hw : wr x = true) (hx : nm.lookup x = some i) (r : Rep g os ad s.heap y v)
    (h : ∀ s', Inv g os own env nm wr ad ⟨σ.vars.set i y, σ.objs⟩ s' → Step g own ad s ad s' → Q () s') : wpAny (model g.prog g.w) A (storeName env x v) Q E s :=
  store_ok I hw hx r fun s' I' ⟨a, ha, m⟩ => h s' I' ((m.step (g := g) (ad := ad)).weaken fun b hb => .inl (by simp at hb; subst hb; exact ha))

theorem ckN_star : ∀ {is : List Nat} {ts : List Expr}, ckN nm wr is ts = true → (assignEach ts env).findIdx? (·.1) = none ∧ (assignEach ts env).length = ts.length
  | [], [], _ => ⟨rfl, rfl⟩
  | i :: is, .Name x _ :: ts, h => by
    simp only [ckN, Bool.and_eq_true] at h
    obtain ⟨h1, h2⟩ := ckN_star h.2
    refine ⟨?_, ?_⟩
    · show List.findIdx? (·.1) ((false, _) :: assignEach ts env) = none
      rw [List.findIdx?_cons, h1]; rfl
    · show ((false, _) :: assignEach ts env).length = _
      simp [h2]
  | [], _ :: _, h => by simp [ckN] at h
  | _ :: _, [], h => by simp [ckN] at h

theorem stores_ok {is : List Nat} {ts : List Expr} {l : List SV} {vs : List Value} {Q : Unit → Shared → Prop} (hc : ckN nm wr is ts = true) (I : Inv g os own env nm wr ad σ s) (r : RepL g os ad s.heap l vs) (hl : l.length = is.length)
    (h : ∀ s', Inv g os own env nm wr ad ⟨setvs σ.vars is l, σ.objs⟩ s' → Step g own ad s ad s' → Q () s') :
    wpAny (model g.prog g.w) A (assignInOrder ((assignEach ts env).map (·.2)) vs) Q E s := by
  induction is generalizing ts l vs σ s with
  | nil =>
    cases ts with
    | nil =>
      cases l with
      | nil => exact wpAny_pure (h s I Step.refl)
      | cons => simp at hl
    | cons => simp [ckN] at hc
  | cons i is ih =>
    match ts, hc with
    | .Name x p :: ts, hc =>
      simp only [ckN, Bool.and_eq_true, beq_iff_eq] at hc
      cases l with
      | nil => simp at hl
      | cons y l =>
        obtain ⟨v, vr, rfl, ry, rl⟩ := r
        show wpAny _ _ (do holding vr (assign (.Name x p) env v); assignInOrder ((assignEach ts env).map (·.2)) vr) _ _ _
        refine wpAny_bind (wpAny_holding (wpAny_assign_Name (storeN_ok I hc.1.2 hc.1.1 ry fun s1 I1 S1 => ?_)))
        exact ih hc.2 I1 (rl.stays (I.stO S1)) (by simpa using hl) fun s2 I2 S2 => h s2 I2 (I.tr I1 S1 S2)
    | [], hc => simp [ckN] at hc

/-- a target -/
def ckTg (nm : List (Str × Nat)) (wr : Str → Bool) : List Nat → Expr → Bool
  | [i], .Name x _ => nm.lookup x == some i && wr x
  | is, .Tuple ts _ _ => is.length != 1 && ckN nm wr is ts
  | _, _ => false

theorem asgW_tup {is : List Nat} {v : SV} {K : List SV → Prop} (h : is.length ≠ 1) (w : asgW is v vars K) : ∃ l, v = .tup l ∧ l.length = is.length ∧ K (setvs vars is l) := by
  unfold asgW at w
  split at w
  · simp at h
  · split at w
    · exact ⟨_, rfl, w.1, w.2⟩
    · exact w.elim

theorem target_ok {tg : List Nat} {te : Expr} {v : SV} {x : Value} {K : List SV → Prop} {Q : Unit → Shared → Prop} (hh : A.handled = none) (hc : ckTg nm wr tg te = true) (I : Inv g os own env nm wr ad σ s) (r : Rep g os ad s.heap v x) (w : asgW tg v σ.vars K)
    (h : ∀ vars s', K vars → Inv g os own env nm wr ad ⟨vars, σ.objs⟩ s' → Step g own ad s ad s' → Q () s') :
    wpAny (model g.prog g.w) A (assign te env x) Q E s := by
  unfold ckTg at hc
  split at hc
  · simp only [Bool.and_eq_true, beq_iff_eq] at hc
    exact wpAny_assign_Name (storeN_ok I hc.2 hc.1 r fun s1 I1 S1 => h _ s1 w I1 S1)
  · simp only [Bool.and_eq_true, bne_iff_ne, ne_eq] at hc
    obtain ⟨l, rfl, hl, k⟩ := asgW_tup hc.1 w
    obtain ⟨a, vs, n, rfl, hf, rl⟩ := r
    have hz := rl.length
    obtain ⟨h1, h2⟩ := ckN_star (env := env) hc.2
    refine wpAny_assign_Tuple hh (items := vs.toArray) ⟨_, hf.1, rfl, n, rfl⟩ (by rw [h2, List.size_toArray, hz, hl, ckN_len hc.2]) h1 fun h' he => ?_
    have m : Mono s { s with heap := h' } := ⟨fun b o e => he b o (Nat.ne_of_lt (Heap.lt_size e)) e, rfl, rfl⟩
    have I1 := I.mono m
    rw [show vs.toArray.toList = vs from rfl]
    exact stores_ok hc.2 I1 (rl.stays m.stays) hl fun s2 I2 S2 => h _ s2 k I2 (I.tr I1 m.step S2)
  · cases hc

def isComp : Expr → Bool
  | .ListComp .. | .SetComp .. | .DictComp .. => true
  | _ => false
theorem swaps_no {e : Expr} (h : isComp e = false) (t : Option Expr) (n : Nat) : swapsWith e t n env = pure false := by
  cases e <;> first | rfl | simp [isComp] at h
theorem swapsSole_no {e : Expr} (h : isComp e = false) (t : List Expr) (n : Nat) : swapsWithSole t e n env = pure false := by
  unfold swapsWithSole
  split
  · exact swaps_no h _ _
  · rfl

theorem wpAny_Assign1 {t : Expr} {value : Expr} {pos : Pos} {Q : Flow → Shared → Prop} {M : Model} (hs : swapsWith value (some t) pos.line env = pure false) (hw : swappedStores [t] value env = pure none)
    (hE : (assignEach [t] env).map (·.2) = [assign t env])
    (h : wpAny M A (eval value env) (fun v s₁ => wpAny M A (assign t env v) (fun _ => Q .next) E s₁) E s) : wpAny M A (exec (.Assign [t] value pos) env) Q E s := by
  refine wpAny_Assign_stores (wpAny_mono h (fun v s1 h1 => ?_) fun _ _ x => x) hs hw
  rw [hE]
  exact h1

theorem tr_set {x : Str} {i : Nat} {p pos : Pos} {ve : Expr} {W : St → (SV → St → Prop) → Prop} (hw : wr x = true) (hx : nm.lookup x = some i) (hc : isComp ve = false) (hv : TrE g N c ℓ W env nm (eval ve env)) :
    TrS g N c ℓ (fun σ K => W σ fun v σ1 => K .next ⟨σ1.vars.set i v, σ1.objs⟩) env nm wr (exec (.Assign [.Name x p] ve pos) env) := by
  intro os own A ad σ s K Q E hA I w post
  refine wpAny_Assign1 (swaps_no hc _ _) (by cases ve <;> rfl) rfl ?_
  refine hv os own wr A ad σ s _ _ E hA I w fun v r ad1 σ1 s1 w1 r1 I1 S1 => ?_
  exact wpAny_assign_Name (storeN_ok I1 hw hx r1 fun s2 I2 S2 => post _ .next _ _ _ w1 trivial I2 (I.tr I1 S1.toOwn S2))

theorem tr_setA (Sp : SpOk g N c ℓ) (hN : ∀ j, N.fname j = g.fname j) {f : Nat} (hf : f < 9) (hinj : ∀ j, g.fname j = g.fname f → j = f) {p pos : Pos} {oe ve : Expr} {W Wo : St → (SV → St → Prop) → Prop} (hc : isComp ve = false) (hv : TrE g N c ℓ W env nm (eval ve env)) (ho : TrE g N c ℓ Wo env nm (eval oe env)) :
    TrS g N c ℓ (fun σ K => W σ fun v σ1 => Wo σ1 fun vo σ2 => match vo with
    | .ref i => (match σ2.objs[i]? with
      | some (.inst k fs) => fs.length ≤ 100 ∧ K .next ⟨σ2.vars, σ2.objs.set i (.inst k (setF f v fs))⟩
      | _ => False)
    | _ => False) env nm wr (exec (.Assign [.Attribute oe (N.fname f) p] ve pos) env) := by
  intro os own A ad σ s K Q E hA I w post
  refine plainObj_wpAny_Assign_Attribute ?_ (swaps_no hc _ _)
  refine hv os own wr A ad σ s _ _ E hA I w fun v x ad1 σ1 s1 w1 r1 I1 S1 => ?_
  refine ho os own wr A ad1 σ1 s1 _ _ E hA I1 w1 fun vo y ad2 σ2 s2 w2 r2 I2 S2 => ?_
  split at w2
  · rename_i i
    split at w2
    · rename_i k fs hob
      obtain ⟨hsz, w2⟩ := w2
      obtain ⟨q, hq, rfl⟩ := r2
      obtain ⟨q', hq', d, es, n, hd, h1, h2, h3⟩ := I2.H.objs.get hob
      rw [hq] at hq'; cases hq'
      have hlen : es.length = fs.length := by
        clear h2 hsz w2 hob
        induction fs generalizing es with
        | nil => rw [show es = [] from h3]; rfl
        | cons a b ih =>
          obtain ⟨_, _, er, rfl, _, _, z⟩ := h3
          simp [ih er z]
      have hget : (getL (g.fname f) es).isSome = true := by
        unfold getL
        split
        · rfl
        · have hk := h3.keys
          rw [if_neg]
          · rfl
          · rw [Bool.not_eq_true, List.any_eq_false]
            intro e he
            obtain ⟨j, t, q⟩ := hk e he
            simp [DictEntry.refKey, q]
      have rv := r1.stays (I1.sts S2)
      refine Sp.seta f hf A os ad2 σ2.objs s2 k q.1 d es n v _ _ I2.H h1 h2 (by rw [hN]; exact hget) (by omega) fun t h' tk n' hk hd' => ?_
      have hdq : d ∈ q.1 :: q.2.toList := by simp [hd]
      have hne : q.1 ≠ d := by
        have nd := I2.H.nodup
        have : adr ad2 = adr (ad2.take i) ++ ((q.1 :: q.2.toList) ++ adr (ad2.drop (i + 1))) := by
          have hi := (List.getElem?_eq_some_iff.mp hq)
          obtain ⟨hi1, hi2⟩ := hi
          have e : ad2 = ad2.take i ++ (q :: ad2.drop (i + 1)) := by
            rw [← hi2, ← List.drop_eq_getElem_cons hi1, List.take_append_drop]
          conv => lhs; rw [e]
          rw [adr_append]; rfl
        rw [this, hd] at nd
        have nd2 := (List.nodup_append.mp nd).2.1
        simp only [Option.toList_some, List.cons_append, List.nil_append, List.nodup_cons, List.mem_cons] at nd2
        exact fun e => nd2.1 (.inl e)
      have hh : handedIn v = true := by
        cases v <;> try rfl
        rename_i id
        cases x <;> first
          | (cases rv; done)
          | (have e : _ = _ := rv; cases e; done)
          | (obtain ⟨_, e⟩ := rv; cases e; done)
          | (obtain ⟨_, _, e⟩ := rv; cases e; done)
          | (obtain ⟨_, _, _, e, _⟩ := rv; cases e; done)
          | (obtain ⟨_, _, _, _, e, _⟩ := rv; cases e; done)
          | (obtain ⟨_, _, e, _⟩ := rv; cases e; done)
          | (obtain ⟨_, _, e⟩ := rv; cases e; done)
          | (rename_i b; have e : _ = _ := rv; cases e; cases b <;> decide +kernel)
      obtain ⟨H, S3, st⟩ := I2.H.setObj (o' := .inst k (setF f x fs)) (s' := { s2 with heap := h', toks := tk }) hob hq (fun a b hm e => hk a b (fun z => hm (by rw [z]; exact hdq)) e) ⟨rfl, rfl⟩ fun st => by
        refine ⟨d, _, n', hd, hk _ _ hne h1, hd', ?_⟩
        have rv' := rv.stays st
        rw [hN]
        clear hget hlen h2 hd' hsz w2 hob
        induction fs generalizing es with
        | nil =>
          rw [show es = [] from h3]
          exact ⟨v, t, [], rfl, rv', hh, rfl⟩
        | cons a b ih =>
          obtain ⟨fn, fx⟩ := a
          obtain ⟨w0, t0, er, rfl, z1, z2, z⟩ := h3
          unfold setF
          by_cases hfe : fn = f
          · subst hfe
            rw [if_pos rfl]
            unfold putL
            simp only [Value.isStr, beq_self_eq_true, if_true]
            exact ⟨v, t0, er, rfl, rv', hh, z.stays st⟩
          · rw [if_neg hfe]
            unfold putL
            have : (Value.isStr (.str (g.fname fn) t0) (g.fname f)) = false := by
              simp only [Value.isStr]
              rw [beq_eq_false_iff_ne]
              exact fun e => hfe (hinj fn e)
            simp only [this, Bool.false_eq_true, if_false]
            exact ⟨w0, t0, _, rfl, z1.stays st, z2, ih er z⟩
      exact post _ .next _ _ _ w2 trivial (I2.objs H S3) (I.stp I2 (I.stp I1 S1 S2) S3).toOwn
    · exact w2.elim
  · exact w2.elim
end
end Vc
end
section
open PySem PySem.W PyProof.Rows PySem.Calls
set_option maxRecDepth 10000
set_option autoImplicit false
set_option linter.unusedVariables false
set_option linter.unusedSectionVars false
namespace Vc
section
variable {g : G} {N : Nms} {c : C} {ℓ : Nat} {env : Env} {nm : List (Str × Nat)} {os os' own : List Addr} {wr : Str → Bool} {ad ad' ad'' : AD} {σ σ' σ'' : St} {s s' s'' : Shared} {A : Around} {E : Value → Shared → Prop} {objs objs' : List AO} {vars : List SV} {h h' : Heap}

theorem load_ok {i : Nat} {x : Str} {y : SV} {Q : Value → Shared → Prop} (I : Inv g os own env nm wr ad σ s) (hx : nm.lookup x = some i) (hy : σ.vars[i]? = some y) (hne : y ≠ .unb) (hd2 : (x == ("__classdict__" : Str)) = false)
    (h : ∀ v, Rep g os ad s.heap y v → Q v s) : wpAny (model g.prog g.w) A (loadName env x) Q E s := by
  by_cases hk : env.kindOf x = some .local
  · obtain ⟨m, hn, hm⟩ := I.F.ns
    rcases hm x i hx hk y hy with hr | ⟨v, e, r⟩
    · exact (hne hr).elim
    · exact wpAny_loadName_local I.F.kind hk hn e (h v r)
  · obtain ⟨hk', cc, ov, h1, h2, h3, _⟩ := I.F.cells x i hx hk
    rcases h3 y hy with hr | ⟨v, e, r⟩
    · exact (hne hr).elim
    · rw [e] at h2
      rcases hk' with hk' | hk'
      · exact wpAny_loadName_cell I.F.kind hk' h1 h2 (h v r)
      · exact wpAny_loadName_free I.F.kind hk' h1 h2 (h v r) hd2

theorem tr_aug {x : Str} {i : Nat} {p pos : Pos} {op : Operator} {ve : Expr} {W : St → (SV → St → Prop) → Prop} (hw : wr x = true) (hx : nm.lookup x = some i) (hd2 : (x == ("__classdict__" : Str)) = false) (hv : TrE g N c ℓ W env nm (eval ve env)) :
    TrS g N c ℓ (fun σ K => match σ.vars[i]? with
    | some .unb => False
    | some o => W σ fun v σ1 => ibinW op o v fun r => K .next ⟨σ1.vars.set i r, σ1.objs⟩
    | none => False) env nm wr (exec (.AugAssign (.Name x p) op ve pos) env) := by
  intro os own A ad σ s K Q E hA I w post
  cases hy : σ.vars[i]? with
  | none => simp only [hy] at w
  | some o =>
    have w' : o ≠ .unb ∧ W σ fun v σ1 => ibinW op o v fun r => K .next ⟨σ1.vars.set i r, σ1.objs⟩ := by
      simp only [hy] at w
      cases o <;> first | exact w.elim | exact ⟨by simp, w⟩
    obtain ⟨hne, w⟩ := w'
    refine wpAny_AugAssign_Name (load_ok I hx hy hne hd2 fun ov ro => ?_)
    refine hv os own wr A ad σ s _ _ E hA I w fun v r ad1 σ1 s1 w1 r1 I1 S1 => ?_
    refine ibinOk I1.H (ro.stays (I.sts S1)) r1 w1 fun z rz s2 k r2 m => ?_
    have I2 := I1.mono m
    exact storeN_ok I2 hw hx r2 fun s3 I3 S3 => post _ .next _ _ _ k trivial I3 (I.tr I2 (I.stp I1 S1 m.step).toOwn S3)

theorem InvH.setItem {i q : Nat} {l : List SV} {p : Addr × Option Addr} {vs : List Value} {n : Nat} {x : SV} {v : Value} (I : InvH g os ad objs s) (ho : objs[i]? = some (.list l)) (hp : ad[i]? = some p)
    (hl : s.heap.get? p.1 = some (lstObj vs n)) (r : RepL g os ad s.heap l vs) (rx : Rep g os ad s.heap x v) :
    InvH g os ad (objs.set i (.list (l.set q x))) { s with heap := s.heap.update p.1 (Obj.mapSeq (·.setIfInBounds q v)) } ∧ Step g [] ad s ad { s with heap := s.heap.update p.1 (Obj.mapSeq (·.setIfInBounds q v)) } := by
  obtain ⟨H, S, _⟩ := I.setList ho hp hl (r.set q rx) (fun z => z.setIfInBounds q v) (by simp)
  exact ⟨H, S⟩

theorem setI_ok {va vi v : Value} {vo ji x : SV} {K : List AO → Prop} {Q : Unit → Shared → Prop} 
    (w : match vo, ji with
    | .ref a, .int j => (match objs[a]? with
      | some (.list l) => (0 ≤ j ∧ j < 2 ^ 62) ∧ (match idx l.length j with
        | some q => K (objs.set a (.list (l.set q x)))
        | none => False)
      | _ => False)
    | _, _ => False)
    (I : InvH g os ad objs s) (ro : Rep g os ad s.heap vo va) (ri : Rep g os ad s.heap ji vi) (rx : Rep g os ad s.heap x v)
    (h : ∀ objs' s', K objs' → InvH g os ad objs' s' → Step g [] ad s ad s' → Q () s') : wpAny (model g.prog g.w) A (setItem va vi v) Q E s := by
  split at w
  · rename_i a j
    split at w
    · rename_i l hob
      obtain ⟨⟨h0, h1⟩, w⟩ := w
      split at w
      · rename_i q hq
        obtain ⟨p, hp, rfl⟩ := ro
        obtain ⟨t, rfl⟩ := ri
        obtain ⟨p', hp', _, vs, n, h3, h4⟩ := I.objs.get hob
        rw [hp] at hp'; cases hp'
        have hlen := h4.length
        unfold idx at hq
        rw [if_pos h0] at hq
        by_cases hj : j < l.length
        · rw [if_pos hj] at hq
          cases hq
          obtain ⟨H, S⟩ := I.setItem (q := j.toNat) hob hp h3 h4 rx
          exact ki_setAt h3 h0 (by omega) (by rw [List.size_toArray, hlen]; exact hj) (h _ _ w H S)
        · rw [if_neg hj] at hq; cases hq
      · exact w.elim
    · exact w.elim
  · exact w.elim

theorem tr_setI {p pos : Pos} {oe ie ve : Expr} {W Wo Wi : St → (SV → St → Prop) → Prop} (hc : isComp ve = false) (hv : TrE g N c ℓ W env nm (eval ve env)) (ho : TrE g N c ℓ Wo env nm (eval oe env)) (hi : TrE g N c ℓ Wi env nm (eval ie env)) :
    TrS g N c ℓ (fun σ K => W σ fun v σ1 => Wo σ1 fun vo σ2 => Wi σ2 fun vi σ3 => match vo, vi with
    | .ref a, .int j => (match σ3.objs[a]? with
      | some (.list l) => (0 ≤ j ∧ j < 2 ^ 62) ∧ (match idx l.length j with
        | some q => K .next ⟨σ3.vars, σ3.objs.set a (.list (l.set q v))⟩
        | none => False)
      | _ => False)
    | _, _ => False) env nm wr (exec (.Assign [.Subscript oe ie p] ve pos) env) := by
  intro os own A ad σ s K Q E hA I w post
  refine wpAny_Assign_Subscript ?_ (swaps_no hc _ _)
  refine hv os own wr A ad σ s _ _ E hA I w fun v x ad1 σ1 s1 w1 r1 I1 S1 => ?_
  refine ho os own wr A ad1 σ1 s1 _ _ E hA I1 w1 fun vo y ad2 σ2 s2 w2 r2 I2 S2 => ?_
  refine hi os own wr A ad2 σ2 s2 _ _ E hA I2 w2 fun vi z ad3 σ3 s3 w3 r3 I3 S3 => ?_
  refine setI_ok (K := fun objs => K .next ⟨σ3.vars, objs⟩) w3 I3.H (r2.stays (I2.sts S3)) r3 ((r1.stays (I1.sts S2)).stays (I2.sts S3)) fun objs' s4 k H S => ?_
  exact post _ .next _ _ _ k trivial (I3.objs H S) (I.stp I3 (I.stp I2 (I.stp I1 S1 S2) S3) S).toOwn

theorem tr_augI {p pos : Pos} {oe ie ve : Expr} {op : Operator} {W Wo Wi : St → (SV → St → Prop) → Prop} (hsl : ∀ ov iv new, augStore ie ov iv new = (do holding [new, ov, iv] (setItem ov iv new); release [new, ov, iv] []; pure .next)) (hv : TrE g N c ℓ W env nm (eval ve env)) (ho : TrE g N c ℓ Wo env nm (eval oe env)) (hi : TrE g N c ℓ Wi env nm (eval ie env)) :
    TrS g N c ℓ (fun σ K => Wo σ fun vo σ1 => Wi σ1 fun vi σ2 => subW vo vi σ2.objs fun old => W σ2 fun v σ3 => ibinW op old v fun new => match vo, vi with
    | .ref a, .int j => (match σ3.objs[a]? with
      | some (.list l) => (0 ≤ j ∧ j < 2 ^ 62) ∧ (match idx l.length j with
        | some q => K .next ⟨σ3.vars, σ3.objs.set a (.list (l.set q new))⟩
        | none => False)
      | _ => False)
    | _, _ => False) env nm wr (exec (.AugAssign (.Subscript oe ie p) op ve pos) env) := by
  intro os own A ad σ s K Q E hA I w post
  refine wpAny_AugAssign_Subscript_any ?_ hsl
  refine ho os own wr A ad σ s _ _ E hA I w fun vo y ad1 σ1 s1 w1 r1 I1 S1 => ?_
  refine hi os own wr A ad1 σ1 s1 _ _ E hA I1 w1 fun vi z ad2 σ2 s2 w2 r2 I2 S2 => ?_
  have key := subOk (A := A) (E := E) (Q := fun old s₃ => wpAny (model g.prog g.w) A (eval ve env) (fun v s₄ => wpAny (model g.prog g.w) A (inplaceOp op old v) (fun new s₅ =>
        wpAny (model g.prog g.w) A (setItem vo vi new) (fun _ => Q .next) E s₅) E s₄) E s₃) I2.H (r1.stays (I1.sts S2)) r2 w2 fun v x s3 k rx m => by
    have I3 := I2.mono m
    refine hv os own wr A ad2 σ2 s3 _ _ E hA I3 k fun vv x4 ad4 σ4 s4 w4 r4 I4 S4 => ?_
    refine ibinOk I4.H (rx.stays (I3.sts S4)) r4 w4 fun z5 rz5 s5 k5 r5 m5 => ?_
    have I5 := I4.mono m5
    refine setI_ok (K := fun objs => K .next ⟨σ4.vars, objs⟩) k5 I5.H ((((r1.stays (I1.sts S2)).stays m.stays).stays (I3.sts S4)).stays m5.stays) (((r2.stays m.stays).stays (I3.sts S4)).stays m5.stays) r5 fun objs' s6 k H S => ?_
    exact post _ .next _ _ _ k trivial (I5.objs H S) (I.stp I5 (I.stp I4 (I.stp I3 (I.stp I2 (I.stp I1 S1 S2) m.step) S4) m5.step) S).toOwn
  obtain ⟨T, id, hl, hT, hg⟩ := key
  exact hg

theorem tr_ex {pos : Pos} {ve : Expr} {W : St → (SV → St → Prop) → Prop} (hc : isComp ve = false) (hv : TrE g N c ℓ W env nm (eval ve env)) :
    TrS g N c ℓ (fun σ K => W σ fun v σ1 => dropOk v ∧ K .next σ1) env nm wr (exec (.Expr ve pos) env) := by
  intro os own A ad σ s K Q E hA I w post
  refine wpAny_Expr_any ?_ (by unfold interactive; rw [I.F.kind]; rfl) (swaps_no hc _ _)
  refine hv os own wr A ad σ s _ _ E hA I w fun v r ad1 σ1 s1 w1 r1 I1 S1 => ?_
  exact post _ .next _ _ _ w1.2 trivial I1 S1.toOwn

theorem tr_ite {pos : Pos} {te : Expr} {ab bb : List Stmt} {Wt : St → (Bool → St → Prop) → Prop} {Wa Wb : St → (Fl → St → Prop) → Prop} (ht : TrT g N c ℓ Wt env nm (isTrue te env (eval te env))) (ha : TrS g N c ℓ Wa env nm wr (execs ab env)) (hb : TrS g N c ℓ Wb env nm wr (execs bb env)) :
    TrS g N c ℓ (fun σ K => Wt σ fun z σ1 => if z then Wa σ1 K else Wb σ1 K) env nm wr (exec (.If te ab bb pos) env) := by
  intro os own A ad σ s K Q E hA I w post
  refine wpAny_If (ht os own wr A ad σ s _ _ E hA I w fun b ad1 σ1 s1 w1 I1 S1 => ?_)
  cases b with
  | true => exact ha os own A ad1 σ1 s1 _ _ E hA I1 w1 fun f fl ad2 σ2 s2 k r I2 S2 => post _ _ _ _ _ k r I2 (I.tr I1 S1.toOwn S2)
  | false => exact hb os own A ad1 σ1 s1 _ _ E hA I1 w1 fun f fl ad2 σ2 s2 k r I2 S2 => post _ _ _ _ _ k r I2 (I.tr I1 S1.toOwn S2)

theorem tr_ret {pos : Pos} {ve : Expr} {W : St → (SV → St → Prop) → Prop} (hv : TrE g N c ℓ W env nm (eval ve env)) :
    TrS g N c ℓ (fun σ K => W σ fun v σ1 => K (.ret v) σ1) env nm wr (exec (.Return (some ve) pos) env) := by
  intro os own A ad σ s K Q E hA I w post
  refine wpAny_Return_some (hv os own wr A ad σ s _ _ E hA I w fun v r ad1 σ1 s1 w1 r1 I1 S1 => ?_)
  exact post _ _ _ _ _ w1 (show FlRep _ _ _ _ (.ret v) (.ret r) from r1) I1 S1.toOwn
theorem tr_ret0 {pos : Pos} : TrS g N c ℓ (fun σ K => K (.ret .none) σ) env nm wr (exec (.Return none pos) env) := by
  intro os own A ad σ s K Q E hA I w post
  exact wpAny_Return_none (post _ _ _ _ _ w (show FlRep _ _ _ _ (.ret .none) (.ret .none) from rfl) I Step.refl)
theorem tr_brk {pos : Pos} : TrS g N c ℓ (fun σ K => K .brk σ) env nm wr (exec (.Break pos) env) := by
  intro os own A ad σ s K Q E hA I w post
  exact wpAny_Break (post _ .brk _ _ _ w trivial I Step.refl)
theorem tr_cont {pos : Pos} : TrS g N c ℓ (fun σ K => K .cont σ) env nm wr (exec (.Continue pos) env) := by
  intro os own A ad σ s K Q E hA I w post
  exact wpAny_Continue (post _ .cont _ _ _ w trivial I Step.refl)
theorem tr_snil : TrS g N c ℓ (fun σ K => K .next σ) env nm wr (execs [] env) := by
  intro os own A ad σ s K Q E hA I w post
  exact wpAny_execs_nil (post _ .next _ _ _ w trivial I Step.refl)
theorem tr_scons {st : Stmt} {rest : List Stmt} {W Wr : St → (Fl → St → Prop) → Prop} (h : TrS g N c ℓ W env nm wr (exec st env)) (hr : TrS g N c ℓ Wr env nm wr (execs rest env)) :
    TrS g N c ℓ (fun σ K => W σ fun fl σ1 => match fl with | .next => Wr σ1 K | fl => K fl σ1) env nm wr (execs (st :: rest) env) := by
  intro os own A ad σ s K Q E hA I w post
  refine wpAny_execs_cons (h os own A ad σ s _ _ E hA I w fun f fl ad1 σ1 s1 w1 r1 I1 S1 => ?_)
  cases f with
  | next =>
    cases fl <;> first | exact r1.elim | skip
    exact hr os own A ad1 σ1 s1 _ _ E hA I1 w1 fun f fl ad2 σ2 s2 k r I2 S2 => post _ _ _ _ _ k r I2 (I.tr I1 S1 S2)
  | brk => cases fl <;> first | exact r1.elim | exact post _ .brk _ _ _ w1 r1 I1 S1
  | cont => cases fl <;> first | exact r1.elim | exact post _ .cont _ _ _ w1 r1 I1 S1
  | ret v => cases fl <;> first | exact r1.elim | exact post _ (.ret _) _ _ _ w1 r1 I1 S1

theorem tr_wh {pos : Pos} {te : Expr} {ab : List Stmt} {Wt : St → (Bool → St → Prop) → Prop} {Wa : St → (Fl → St → Prop) → Prop} (ht : TrT g N c ℓ Wt env nm (isTrue te env (eval te env))) (ha : TrS g N c ℓ Wa env nm wr (execs ab env)) :
    TrS g N c ℓ (fun σ K => ∃ n, whW Wt Wa n σ K) env nm wr (exec (.While te ab [] pos) env) := by
  intro os own A ad σ s K Q E hA I w post
  obtain ⟨n, w⟩ := w
  refine wpAny_While (codeAny_whileLoop (fun n s' => ∃ ad' σ', whW Wt Wa n σ' K ∧ Inv g os own env nm wr ad' σ' s' ∧ Step g own ad s ad' s') (fun n s' hI => ?_) n ⟨ad, σ, w, I, Step.refl⟩)
  obtain ⟨ad', σ', w', I', S'⟩ := hI
  cases n with
  | zero => exact w'.elim
  | succ n =>
    refine ht os own wr A ad' σ' s' _ _ _ hA I' w' fun b ad1 σ1 s1 w1 I1 S1 => ?_
    have S1' := I.tr I' S' S1.toOwn
    cases b with
    | false => exact wpAny_execs_nil (post _ .next _ _ _ w1 trivial I1 S1')
    | true =>
      refine ha os own A ad1 σ1 s1 _ _ _ hA I1 w1 fun f fl ad2 σ2 s2 k r I2 S2 => ?_
      have S2' := I.tr I1 S1' S2
      cases f with
      | next => cases fl <;> first | exact r.elim | exact ⟨n, Nat.lt_succ_self n, ad2, σ2, k, I2, S2'⟩
      | cont => cases fl <;> first | exact r.elim | exact ⟨n, Nat.lt_succ_self n, ad2, σ2, k, I2, S2'⟩
      | brk => cases fl <;> first | exact r.elim | exact post _ .next _ _ _ k trivial I2 S2'
      | ret v => cases fl <;> first | exact r.elim | exact post _ (.ret _) _ _ _ k r I2 S2'
end
end Vc
end
section
open PySem PySem.W PyProof.Rows PySem.Calls
set_option maxRecDepth 10000
set_option autoImplicit false
set_option linter.unusedVariables false
set_option linter.unusedSectionVars false
namespace Vc
section
variable {g : G} {N : Nms} {c : C} {ℓ : Nat} {env : Env} {nm nm' : List (Str × Nat)} {os os' own : List Addr} {wr : Str → Bool} {ad ad' ad'' : AD} {σ σ' σ'' : St} {s s' s'' : Shared} {A : Around} {E : Value → Shared → Prop} {objs objs' : List AO} {vars : List SV} {h h' : Heap}

theorem setvs_snoc : ∀ {is : List Nat} {l : List SV} {vars : List SV} {i : Nat} {x : SV}, is.length = l.length → setvs vars (is ++ [i]) (l ++ [x]) = (setvs vars is l).set i x
  | [], [], vars, i, x, _ => rfl
  | j :: is, y :: l, vars, i, x, h => by
    show setvs (vars.set j y) (is ++ [i]) (l ++ [x]) = (setvs (vars.set j y) is l).set i x
    exact setvs_snoc (by simpa using h)
  | [], _ :: _, _, _, _, h => by simp at h
  | _ :: _, [], _, _, _, h => by simp at h
theorem setvs_set : ∀ {is : List Nat} {l : List SV} {vars : List SV} {i : Nat} {x : SV}, i ∉ is → setvs (vars.set i x) is l = (setvs vars is l).set i x
  | [], [], _, _, _, _ => rfl
  | [], _ :: _, _, _, _, _ => rfl
  | _ :: _, [], _, _, _, _ => rfl
  | j :: is, y :: l, vars, i, x, h => by
    simp only [List.mem_cons, not_or] at h
    show setvs ((vars.set i x).set j y) is l = (setvs (vars.set j y) is l).set i x
    rw [List.set_comm _ _ h.1, setvs_set h.2]
theorem setvs_rev : ∀ {is : List Nat} {l : List SV} {vars : List SV}, is.Nodup → is.length = l.length → setvs vars is.reverse l.reverse = setvs vars is l
  | [], [], _, _, _ => rfl
  | i :: is, x :: l, vars, hn, hl => by
    simp only [List.nodup_cons] at hn
    have hl' : is.length = l.length := by simpa using hl
    rw [List.reverse_cons, List.reverse_cons, setvs_snoc (by simpa using hl'), setvs_rev hn.2 hl']
    show _ = setvs (vars.set i x) is l
    rw [setvs_set hn.1]
  | [], _ :: _, _, _, h => by simp at h
  | _ :: _, [], _, _, h => by simp at h

def NmsOk (nm : List (Str × Nat)) (wr : Str → Bool) : List Nat → List Str → Prop
  | [], [] => True
  | i :: is, x :: xs => nm.lookup x = some i ∧ wr x = true ∧ NmsOk nm wr is xs
  | _, _ => False
theorem NmsOk.len : ∀ {is : List Nat} {xs : List Str}, NmsOk nm wr is xs → xs.length = is.length
  | [], [], _ => rfl
  | i :: is, x :: xs, h => by simp [NmsOk.len h.2.2]
  | [], _ :: _, h => h.elim
  | _ :: _, [], h => h.elim
theorem NmsOk.snoc : ∀ {is : List Nat} {xs : List Str} {i : Nat} {x : Str}, NmsOk nm wr is xs → nm.lookup x = some i → wr x = true → NmsOk nm wr (is ++ [i]) (xs ++ [x])
  | [], [], _, _, _, h1, h2 => ⟨h1, h2, trivial⟩
  | _ :: _, _ :: _, _, _, h, h1, h2 => ⟨h.1, h.2.1, NmsOk.snoc h.2.2 h1 h2⟩
  | [], _ :: _, _, _, h, _, _ => h.elim
  | _ :: _, [], _, _, h, _, _ => h.elim
theorem NmsOk.rev : ∀ {is : List Nat} {xs : List Str}, NmsOk nm wr is xs → NmsOk nm wr is.reverse xs.reverse
  | [], [], _ => trivial
  | i :: is, x :: xs, h => by rw [List.reverse_cons, List.reverse_cons]; exact (NmsOk.rev h.2.2).snoc h.1 h.2.1
  | [], _ :: _, h => h.elim
  | _ :: _, [], h => h.elim

theorem binds_ok {is : List Nat} {xs : List Str} {l : List SV} {vs : List Value} {Q : Unit → Shared → Prop} (hc : NmsOk nm wr is xs) (I : Inv g os own env nm wr ad σ s) (r : RepL g os ad s.heap l vs) (hl : l.length = is.length)
    (h : ∀ s', Inv g os own env nm wr ad ⟨setvs σ.vars is l, σ.objs⟩ s' → Step g own ad s ad s' → Q () s') :
    wpAny (model g.prog g.w) A (assignInOrder (xs.map fun n => bindName env n) vs) Q E s := by
  induction is generalizing xs l vs σ s with
  | nil =>
    cases xs with
    | nil =>
      cases l with
      | nil => exact wpAny_pure (h s I Step.refl)
      | cons => simp at hl
    | cons => exact hc.elim
  | cons i is ih =>
    cases xs with
    | nil => exact hc.elim
    | cons x xs =>
      cases l with
      | nil => simp at hl
      | cons y l =>
        obtain ⟨v, vr, rfl, ry, rl⟩ := r
        show wpAny _ _ (do holding vr (bindName env x v); assignInOrder (xs.map fun n => bindName env n) vr) _ _ _
        refine wpAny_bind (wpAny_holding (wpAny_bindName (storeN_ok I hc.2.1 hc.1 ry fun s1 I1 S1 => ?_)))
        exact ih hc.2.2 I1 (rl.stays (I.stO S1)) (by simpa using hl) fun s2 I2 S2 => h s2 I2 (I.tr I1 S1 S2)

/-- the displays that the model leaves out -/
def tupOk : Expr → Bool
  | .Tuple vs _ _ => !vs.all (constantsAlone 8) || vs.all (foldedForSure 8)
  | _ => true

theorem filter_names {f : Expr → Option Str} (hf : ∀ id pos y, f (.Name id pos) = some y → y = id) : ∀ {is : List Nat} {ts : List Expr}, ckN nm wr is ts = true → (ts.filterMap f).length ≤ ts.length ∧ ((ts.filterMap f).length = ts.length → NmsOk nm wr is (ts.filterMap f))
  | [], [], _ => ⟨Nat.le_refl _, fun _ => trivial⟩
  | i :: is, .Name x p :: ts, h => by
    simp only [ckN, Bool.and_eq_true, beq_iff_eq] at h
    obtain ⟨h1, h2⟩ := filter_names hf h.2
    cases hx : f (.Name x p) with
    | none =>
      rw [List.filterMap_cons_none hx]
      refine ⟨by simp; omega, fun e => ?_⟩
      simp at e; omega
    | some y =>
      rw [List.filterMap_cons_some hx]
      have := hf x p y hx
      subst this
      exact ⟨by simpa using h1, fun e => ⟨h.1.1, h.1.2, h2 (by simpa using e)⟩⟩
  | [], _ :: _, h => by simp [ckN] at h
  | _ :: _, [], h => by simp [ckN] at h

theorem swapped_cases {is : List Nat} {ts : List Expr} {k : Nat} {p : Pos} {ve : Expr} (hc : ckN nm wr is ts = true) (ht : tupOk ve = true) :
    swappedStores [.Tuple ts k p] ve env = pure none ∨ ∃ names, swappedStores [.Tuple ts k p] ve env = pure (some names) ∧ NmsOk nm wr is names := by
  cases ve with
  | Tuple vs k' p' =>
    unfold swappedStores
    simp only []
    split
    · exact .inl rfl
    · try simp only [pure_bind]
      split
      · exact .inl rfl
      · try simp only [pure_bind]
        split
        · exact .inl rfl
        · rename_i hlen
          try simp only [pure_bind]
          split
          · exact .inl rfl
          · rename_i hfold
            try simp only [pure_bind]
            split
            · rename_i hconst
              exfalso
              simp only [tupOk, Bool.or_eq_true, Bool.not_eq_true'] at ht
              rcases ht with ht | ht
              · rw [ht] at hconst; cases hconst
              · exact hfold ht
            · try simp only [pure_bind]
              simp only [Bool.or_eq_true, bne_iff_ne, ne_eq, not_or, Decidable.not_not] at hlen
              refine .inr ⟨_, rfl, (filter_names (fun id pos y e => ?_) hc).2 hlen.1⟩
              simp only [] at e
              split at e
              · cases e; rfl
              · cases e
  | _ => exact .inl rfl

theorem tr_setT {is : List Nat} {ts : List Expr} {k : Nat} {p pos : Pos} {ve : Expr} {W : St → (SV → St → Prop) → Prop} (hts : ckN nm wr is ts = true) (hnd : is.Nodup) (ht : tupOk ve = true) (hc : isComp ve = false) (hv : TrE g N c ℓ W env nm (eval ve env)) :
    TrS g N c ℓ (fun σ K => W σ fun v σ1 => match v with
    | .tup l => l.length = is.length ∧ K .next ⟨setvs σ1.vars is l, σ1.objs⟩
    | _ => False) env nm wr (exec (.Assign [.Tuple ts k p] ve pos) env) := by
  intro os own A ad σ s K Q E hA I w post
  rw [exec_Assign_arm, swapsSole_no hc]
  refine wpAny_bind (wpAny_standAt (wpAny_bind (wpAny_pure ?_)))
  rw [if_neg (by decide)]
  refine wpAny_bind (hv os own wr A ad σ s _ _ E hA I w fun v x ad1 σ1 s1 w1 r1 I1 S1 => ?_)
  split at w1
  · rename_i l
    obtain ⟨hl, w1⟩ := w1
    obtain ⟨a, vs, n, rfl, hf, rl⟩ := r1
    have hz := rl.length
    have mm : ∀ h' : Heap, Heap.ExtBut s1.heap.objs.size s1.heap h' → Mono s1 { s1 with heap := h' } := fun h' he => ⟨fun b o e => he b o (Nat.ne_of_lt (Heap.lt_size e)) e, rfl, rfl⟩
    rcases swapped_cases (env := env) (k := k) (p := p) hts ht with e | ⟨names, e, hn⟩
    · rw [e]
      refine wpAny_bind (wpAny_pure ?_)
      show wpAny _ _ (do assign (.Tuple ts k p) env (.ref a); pure Flow.next) _ _ _
      obtain ⟨h1, h2⟩ := ckN_star (env := env) hts
      refine wpAny_bind (wpAny_assign_Tuple hA.1 (items := vs.toArray) ⟨_, hf.1, rfl, n, rfl⟩ (by rw [h2, List.size_toArray, hz, hl, ckN_len hts]) h1 fun h' he => ?_)
      have m := mm h' he
      have I2 := I1.mono m
      rw [show vs.toArray.toList = vs from rfl]
      exact stores_ok hts I2 (rl.stays m.stays) hl fun s3 I3 S3 => wpAny_pure (post _ .next _ _ _ w1 trivial I3 (I.tr I2 (I.stp I1 S1 m.step).toOwn S3))
    · rw [e]
      refine wpAny_bind (wpAny_pure ?_)
      show wpAny _ _ (do rule "assign.swapped-stores"; let items ← unpackItems (.ref a) names.length none; assignInOrder (names.reverse.map fun n => bindName env n) items.reverse; pure Flow.next) _ _ _
      have hnl : names.length = vs.toArray.size := by rw [hn.len, List.size_toArray, hz, hl]
      rw [hnl]
      refine wpAny_bind (wpAny_rule (wpAny_bind (wpAny_unpackItems_tuple hA.1 (items := vs.toArray) ⟨_, hf.1, rfl, n, rfl⟩ fun h' he => ?_)))
      have m := mm h' he
      have I2 := I1.mono m
      rw [show vs.toArray.toList = vs from rfl]
      refine wpAny_bind (binds_ok hn.rev I2 (rl.stays m.stays).reverse (by simpa using hl) fun s3 I3 S3 => wpAny_pure ?_)
      rw [setvs_rev hnd hl.symm] at I3
      exact post _ .next _ _ _ w1 trivial I3 (I.tr I2 (I.stp I1 S1 m.step).toOwn S3)
  · exact w1.elim
end
end Vc
end
section
open PySem PySem.W PyProof.Rows PySem.Calls
set_option maxRecDepth 10000
set_option autoImplicit false
set_option linter.unusedVariables false
set_option linter.unusedSectionVars false
namespace Vc
section
variable {g : G} {N : Nms} {c : C} {ℓ : Nat} {env : Env} {nm nm' : List (Str × Nat)} {os os' own : List Addr} {wr : Str → Bool} {ad ad' ad'' : AD} {σ σ' σ'' : St} {s s' s'' : Shared} {A : Around} {E : Value → Shared → Prop} {objs objs' : List AO} {vars : List SV} {h h' : Heap} {sc : Scope} {y : Str} {j : Nat}

theorem tr_setC {x : Str} {i : Nat} {p pos px cpos : Pos} {ee ie : Expr} {ifs : List Expr} {Wi We : St → (SV → St → Prop) → Prop} {Wt : St → (Bool → St → Prop) → Prop} {mu : Bool} (hw : wr x = true) (hx : nm.lookup x = some i)
    (Sc : CompS env nm nm' sc y j) (hs : ∀ z, foldedSetIterable ie env z = pure z)
    (hi : TrE g N c ℓ Wi env nm (eval ie env))
    (he : ∀ cl C, TrE g N c ℓ We (compEnvC sc cl C env) nm' (eval ee (compEnvC sc cl C env)))
    (ht : ∀ cl C, TrT g N c ℓ Wt (compEnvC sc cl C env) nm' (forIn ifs true fun c r => if r = true then do let ok ← isTrue c (compEnvC sc cl C env) (eval c (compEnvC sc cl C env)); pure (ForInStep.yield ok) else pure (ForInStep.yield r))) :
    TrS g N c ℓ (fun σ K => Wi σ fun vi σ1 => match itemsOf σ1.objs vi with
      | some l => l.length ≤ lim ∧ compW We Wt [j] (guardOf vi l) l [] ⟨clrs σ1.vars [j], σ1.objs⟩ fun acc σ2 => mkW mu acc σ2.objs fun r objs => K .next ⟨σ.vars.set i r, objs⟩
      | none => False) env nm wr (exec (.Assign [.Name x p] (.ListComp ee [⟨.Name y px, ie, ifs, 0⟩] sc cpos) pos) env) := by
  intro os own A ad σ s K Q E hA I w post
  obtain ⟨b, hb⟩ : ∃ b, swapsWith (.ListComp ee [⟨.Name y px, ie, ifs, 0⟩] sc cpos) (some (.Name x p)) pos.line env = pure b := ⟨_, rfl⟩
  cases b with
  | false =>
    refine wpAny_Assign1 hb rfl rfl ?_
    refine tr_comp (mu := mu) Sc hs hi he ht os own wr A ad σ s (fun r σ' => K .next ⟨σ'.vars.set i r, σ'.objs⟩) _ E hA I w fun v r ad1 σ1 s1 w1 r1 I1 S1 => ?_
    exact wpAny_assign_Name (storeN_ok I1 hw hx r1 fun s2 I2 S2 => post _ .next _ _ _ w1 trivial I2 (I.tr I1 S1.toOwn S2))
  | true =>
    rw [exec_Assign_arm, show swapsWithSole [.Name x p] (.ListComp ee [⟨.Name y px, ie, ifs, 0⟩] sc cpos) pos.line env = pure true from hb]
    refine wpAny_bind (wpAny_standAt (wpAny_bind (wpAny_pure ?_)))
    rw [if_pos rfl]
    rw [arm_evalThenUse_ListComp]
    refine wpAny_bind ?_
    dsimp only
    refine wpAny_bind (comp_ok (mu := mu) (K := fun r σ' => K .next ⟨σ'.vars.set i r, σ'.objs⟩) Sc hs hi he ht hA I w fun D C r ad' objs' s' k rr I' S ⟨m, hm⟩ hf ho hn => ?_)
    show wpAny _ _ (assign (.Name x p) env (.ref D)) _ _ _
    refine wpAny_assign_Name (store_ok I' hw hx rr fun s3 I3 ⟨a, ha, m3⟩ => ?_)
    have haC : a ≠ C := fun e => ho (e ▸ I.F.inOs a ha)
    obtain ⟨o, es, ep, q1, q2⟩ := hm
    refine ⟨m, ⟨o, es, ep, m3.keep _ _ haC.symm q1, q2⟩, fun h' hs' => wpAny_pure (wpAny_pure ?_)⟩
    have kp : ∀ b o, b ≠ C → s3.heap.get? b = some o → h'.get? b = some o := fun b o hb e => hs'.extBut b o hb e
    have I4 := I3.dropMod (s' := { s3 with heap := h' }) ho I.F.inOs hn kp
    refine post _ .next _ _ _ k trivial I4 ⟨S.ext, fun b o h1 h2 h3 q => kp b o (none_ne q hf) (m3.keep b o (fun e => h1 (e ▸ ha)) (S.keep b o (by simp) h2 h3 q)), ?_⟩
    exact ⟨m3.rest.1.trans S.rest.1, m3.rest.2.trans S.rest.2⟩

theorem letGo_ok {te : Expr} {vi : SV} {xv v : Value} {it : Addr} {k : Nat} {tg : List Nat} {z : SV} {K : List SV → Prop} {Q : Unit → Shared → Prop} {l : List SV} (hc : ckTg nm wr tg te = true) (hit : ItAt vi xv it k s.heap) (hl : itemsOf objs vi = some l) (hz : z ∈ l) (w : asgW tg z vars K) (r : Rep g os ad s.heap z v) (hQ : Q () s) :
    wpAny (model g.prog g.w) A (letOwnedTupleGo te (.ref it) v) Q E s := by
  unfold ckTg at hc
  split at hc
  · exact wpAny_of_eq (a := ()) rfl hQ
  · simp only [Bool.and_eq_true, bne_iff_ne, ne_eq] at hc
    obtain ⟨l', rfl, hl', _⟩ := asgW_tup hc.1 w
    obtain ⟨a, vs, n, rfl, hf, rl⟩ := r
    cases vi <;> simp only [itemsOf] at hl <;> try cases hl
    · -- bytes
      obtain ⟨_, _, e⟩ := List.mem_map.mp hz
      cases e
    · -- tup
      obtain ⟨b, rfl, o, ho, hcl, hd⟩ := hit
      unfold letOwnedTupleGo
      refine wpAny_bind (wpAny_load ho ?_)
      rw [hcl, hd]
      show wpAny _ A (if (["enumerate", "zip", "dict_itemiterator", "dict_reverseitemiterator", "odict_iterator", "itertools.zip_longest", "itertools.pairwise"].contains "tuple_iterator" &&
          (#[.ref b, .int k 0] : Array Value)[0]? == some (rawInt a)) = true then _ else _) Q E s
      rw [if_neg (by
        intro h
        rw [show (["enumerate", "zip", "dict_itemiterator", "dict_reverseitemiterator", "odict_iterator", "itertools.zip_longest", "itertools.pairwise"].contains "tuple_iterator") = false from by decide, Bool.false_and] at h
        cases h)]
      exact wpAny_pure hQ
    · -- lst
      obtain ⟨b, rfl, hi⟩ := hit
      exact wpAny_letOwnedTupleGo_listiter hi hQ
    · -- rng
      obtain ⟨_, _, e⟩ := List.mem_map.mp hz
      cases e
    · obtain ⟨b, rfl, hi⟩ := hit
      exact wpAny_letOwnedTupleGo_listiter hi hQ
  · cases hc

theorem tr_fr {tg : List Nat} {te ie : Expr} {ab : List Stmt} {pos : Pos} {Wi : St → (SV → St → Prop) → Prop} {Wa : St → (Fl → St → Prop) → Prop} (hc : ckTg nm wr tg te = true) (hs : ∀ z, foldedSetIterable ie env z = pure z)
    (hi : TrE g N c ℓ Wi env nm (eval ie env)) (ha : TrS g N c ℓ Wa env nm wr (execs ab env)) :
    TrS g N c ℓ (fun σ K => Wi σ fun vi σ1 => match itemsOf σ1.objs vi with
    | some l => l.length ≤ lim ∧ forW tg Wa (guardOf vi l) l σ1 K
    | none => False) env nm wr (exec (.For te ie ab [] pos) env) := by
  intro os own A ad σ s K Q E hA I w post
  refine wpAny_For ?_ hs
  refine hi os own wr A ad σ s _ _ E hA I w fun xv vi ad1 σ1 s1 w1 rv I1 S1 => ?_
  cases hit : itemsOf σ1.objs vi with
  | none => simp only [hit] at w1
  | some l =>
    simp only [hit] at w1
    obtain ⟨hl, w1⟩ := w1
    have hg1 : guardOf vi l σ1.objs := by cases l <;> exact w1.1
    refine iter_start I1.H rv hit hg1 fun it s2 m2 hf2 hl2 it2 => ?_
    have I2 : Inv g ([it] ++ os) own env nm wr ad1 σ1 s2 := I1.grow (new := [it]) m2 (by simpa using hf2) (by simpa using hl2)
    have rv2 : Rep g ([it] ++ os) ad1 s2.heap vi xv := rv.stays (Stays.grow (new := [it]) m2 (by simpa using hf2))
    have hno : it ∉ os := not_in_os I1.H hf2
    have hown : ∀ a ∈ it :: own, a ∈ [it] ++ os := fun a ha => by
      rcases List.mem_cons.mp ha with rfl | ha
      · simp
      · simp [I.F.inOs a ha]
    have hitown : it ∉ own := fun e => hno (I.F.inOs _ e)
    have nloc : env.locals ≠ it := fun e => hno (e ▸ I.F.inOs _ I.F.loc)
    have ncell : ∀ a, NmCell env nm a → a ≠ it := fun a y => by
      obtain ⟨o, e⟩ := I1.F.live y
      exact none_ne e hf2
    refine codeAny_forLoop_any (fun m s' => ∃ (rest : List SV) (k : Nat) (ad' : AD) (σ' : St), m = rest.length ∧ l = l.take k ++ rest ∧ k + rest.length = l.length ∧ forW tg Wa (guardOf vi l) rest σ' K ∧ Inv g ([it] ++ os) own env nm wr ad' σ' s' ∧
      Rep g ([it] ++ os) ad' s'.heap vi xv ∧ ItAt vi xv it k s'.heap ∧ Step g (it :: own) ad1 s2 ad' s') ?_ l.length ⟨l, 0, ad1, σ1, rfl, by simp, by simp, w1, I2, rv2, it2, Step.refl⟩
    have fin : ∀ (ad' : AD) (s' : Shared), Step g (it :: own) ad1 s2 ad' s' → Step g own ad s ad' s' := by
      intro ad' s' S
      have hf1 : s.heap.get? it = none := by
        cases q : s.heap.get? it with
        | none => rfl
        | some o =>
          exfalso
          by_cases hm : it ∈ mt g os ad1
          · obtain ⟨o', e⟩ := I1.H.liveAll _ hm
            rw [hf2] at e; cases e
          · have hx : it ∉ adr ad ∧ it ∉ g.tabs := by
              rw [mem_mt] at hm
              simp only [not_or] at hm
              obtain ⟨e, rfl, _⟩ := S1.ext
              exact ⟨fun z => hm.2.1 (by rw [adr_append]; simp [z]), hm.2.2⟩
            have := S1.keep it o (by simp) hx.1 hx.2 q
            rw [hf2] at this; cases this
      have Sa : Step g (it :: own) ad s ad1 s2 := (I.stp I1 S1 m2.step).weaken (by simp)
      have H1 : InvH g ([it] ++ os) ad1 σ1.objs s2 := I2.H
      refine ⟨?_, fun a o h1 h2 h3 e => ?_, S.rest.1.trans Sa.rest.1, S.rest.2.trans Sa.rest.2⟩
      · obtain ⟨e1, rfl, he1⟩ := Sa.ext
        obtain ⟨e2, rfl, he2⟩ := S.ext
        refine ⟨e1 ++ e2, by simp, fun a ha => ?_⟩
        rw [adr_append] at ha
        rcases List.mem_append.mp ha with ha | ha
        · exact he1 a ha
        · cases q : s.heap.get? a with
          | none => rfl
          | some o =>
            exfalso
            have n := he2 a ha
            by_cases hm : a ∈ mt g ([it] ++ os) (ad ++ e1)
            · obtain ⟨o', e⟩ := H1.liveAll _ hm
              rw [n] at e; cases e
            · rw [mem_mt] at hm
              simp only [not_or, List.mem_append, adr_append] at hm
              have := Sa.keep a o (fun z => by
                rcases List.mem_cons.mp z with z | z
                · exact hm.1.1 (by simp [z])
                · exact hm.1.2 (I.F.inOs a z)) (fun z => hm.2.1.1 z) hm.2.2 q
              rw [n] at this; cases this
      · have hait : a ≠ it := none_ne e hf1
        refine S.keep a o (by simp [hait, h1]) ?_ h3 (Sa.keep a o (by simp [hait, h1]) h2 h3 e)
        obtain ⟨e1, rfl, he1⟩ := Sa.ext
        rw [adr_append, List.mem_append]
        rintro (z | z)
        · exact h2 z
        · rw [he1 a z] at e; cases e
    rintro _ s' ⟨rest, k, ad', σ', rfl, h1, h2, w', I', rs, iti, S'⟩
    cases rest with
    | nil =>
      obtain ⟨hg, w'⟩ := w'
      have hii := items_guard hit hg
      have ek : k = l.length := by simpa using h2
      subst ek
      refine iter_end I'.H hA.1 rs hii iti fun s3 q r => wpAny_execs_nil ?_
      have I3 := I'.dropMod (b := it) (s' := s3) hno I.F.inOs ⟨nloc, ncell⟩ q
      refine post _ .next _ _ _ w' trivial I3 (fin ad' s3 ⟨S'.ext, fun a o h1 h2 h3 e => q a o (fun z => h1 (by simp [z])) (S'.keep a o h1 h2 h3 e), r.1.trans S'.rest.1, r.2.trans S'.rest.2⟩)
    | cons z rest =>
      obtain ⟨hg, w'⟩ := w'
      have hii := items_guard hit hg
      have hk1 : k < l.length := by simp at h2; omega
      have hz : l[k]? = some z := by
        have hkl : (l.take k).length = k := by simp; omega
        have e : l[k]? = (l.take k ++ z :: rest)[k]? := congrArg (fun q : List SV => q[k]?) h1
        rw [e, List.getElem?_append_right (by omega), hkl]; simp
      refine iter_next I'.H (by simp) rs hii iti hz fun v s3 rz it3 m3 => ?_
      have I3 : Inv g ([it] ++ os) own env nm wr ad' σ' s3 := ⟨m3.inv I'.H (by simp), m3.fr I'.H (by simp) I'.F ⟨nloc, ncell⟩⟩
      have t3 : Step g (it :: own) ad' s' ad' s3 := (m3.step (g := g) (ad := ad')).weaken fun a ha => .inl (by simp at ha; simp [ha])
      have S3 := Step.trans I2.H hown I'.H S' t3
      have z3 : Stays g ([it] ++ os) ad' s'.heap ([it] ++ os) ad' s3.heap := m3.step.stays (by simp)
      refine letGo_ok hc it3 hii (List.mem_of_getElem? hz) w' rz ?_
      refine target_ok hA.1 hc I3 rz w' fun vars' s4 w4 I4 S4 => ?_
      have S4' := Step.trans I2.H hown I3.H S3 (S4.weaken fun a ha => .inl (by simp [ha]))
      have z4 := I3.stO S4
      have nit : ∀ {adx : AD} {objsx : List AO} {sx : Shared}, InvH g ([it] ++ os) adx objsx sx → it ∉ adr adx ∧ it ∉ g.tabs := fun H => ⟨H.ap1 it (by simp), fun q => (H.ap2 it q).1 (by simp)⟩
      have it4 : ItAt vi xv it (k + 1) s4.heap := it3.keep fun o e => S4.keep it o hitown (nit I3.H).1 (nit I3.H).2 e
      refine ha ([it] ++ os) own A ad' ⟨vars', σ'.objs⟩ s4 _ _ _ hA I4 w4 fun f fl ad5 σ5 s5 w5 r5 I5 S5 => ?_
      have S5' := Step.trans I2.H hown I4.H S4' (S5.weaken fun a ha => .inl (by simp [ha]))
      have z5 := I4.stO S5
      have it5 : ItAt vi xv it (k + 1) s5.heap := it4.keep fun o e => S5.keep it o hitown (nit I4.H).1 (nit I4.H).2 e
      have e1 : l = l.take (k + 1) ++ rest := by
        have : l.take (k + 1) = l.take k ++ [z] := by
          rw [List.take_add_one, hz]; rfl
        rw [this, List.append_assoc]; exact h1
      have e2 : k + 1 + rest.length = l.length := by simp at h2; omega
      have rs5 : Rep g ([it] ++ os) ad5 s5.heap vi xv := ((rs.stays z3).stays z4).stays z5
      have Ish := I5.shrink (new := [it]) I.F.inOs
      cases f with
      | next => cases fl <;> first | exact r5.elim | exact ⟨_, Nat.lt_succ_self _, rest, k + 1, ad5, σ5, rfl, e1, e2, w5, I5, rs5, it5, S5'⟩
      | cont => cases fl <;> first | exact r5.elim | exact ⟨_, Nat.lt_succ_self _, rest, k + 1, ad5, σ5, rfl, e1, e2, w5, I5, rs5, it5, S5'⟩
      | brk => cases fl <;> first | exact r5.elim | exact post _ .next _ _ _ w5 trivial Ish (fin _ _ S5')
      | ret u => cases fl <;> first | exact r5.elim | exact post _ (.ret _) _ _ _ w5 (FlRep.stays (Stays.shrink (new := [it])) r5) Ish (fin _ _ S5')
end
end Vc
end
section
open PySem PySem.W PyProof.Rows PySem.Calls
set_option maxRecDepth 10000
set_option autoImplicit false
set_option linter.unusedVariables false
set_option linter.unusedSectionVars false
namespace Vc

structure CompS2 (env : Env) (nm nm' : List (Str × Nat)) (sc : Scope) (x1 x2 : Str) (i1 i2 : Nat) : Prop where
  kind : sc.kind = .function
  cell : ∀ p ∈ sc.names, p.2 ≠ .cell
  loc : ∀ p ∈ sc.names, p.2 = .local → sc.names.lookup p.1 = some .local
  free : ∀ p ∈ sc.names, p.2 = .free → (∃ j, nm.lookup p.1 = some j) ∧ (env.kindOf p.1 = some .cell ∨ env.kindOf p.1 = some .free)
  nms : ∀ y j, nm'.lookup y = some j → (y = x1 ∧ j = i1) ∨ (y = x2 ∧ j = i2) ∨ (sc.names.lookup y = some .free ∧ nm.lookup y = some j ∧ j ≠ i1 ∧ j ≠ i2)
  inj : ∀ y z j, nm'.lookup y = some j → nm'.lookup z = some j → y = z
  ne : i1 ≠ i2
  x1i : nm'.lookup x1 = some i1
  x2i : nm'.lookup x2 = some i2
  x1l : sc.names.lookup x1 = some .local
  x2l : sc.names.lookup x2 = some .local

section
variable {g : G} {N : Nms} {c : C} {ℓ : Nat} {env : Env} {nm nm' : List (Str × Nat)} {os os' own : List Addr} {wr : Str → Bool} {ad ad' ad'' : AD} {σ σ' σ'' : St} {s s' s'' : Shared} {A : Around} {E : Value → Shared → Prop} {objs objs' : List AO} {vars : List SV} {h h' : Heap} {sc : Scope} {x1 x2 : Str} {i1 i2 : Nat}

theorem comp_fr2 {cl : List (Str × Addr)} {C : Addr} (S : CompS2 env nm nm' sc x1 x2 i1 i2) (F : FrOk g os own env nm wr ad vars h) (hC : C ∈ os) (hn : h.Ns C fun _ => none) (hcl : ∀ p ∈ sc.names, p.2 = NameKind.free → cl.lookup p.1 = env.cells.lookup p.1)
    (hne : ∀ a, NmCell env nm a → a ≠ C) :
    FrOk g os [C] (compEnvC sc cl C env) nm' (cwr sc) ad ((vars.set i1 .unb).set i2 .unb) h := by
  have hk : ∀ y, (compEnvC sc cl C env).kindOf y = (relabel sc env).names.lookup y := fun y => rfl
  have hl : ∀ y, sc.names.lookup y = some .local → (compEnvC sc cl C env).kindOf y = some .local := fun y q => lookup_relabel_local q
  refine ⟨S.kind, F.glob, F.blt, by simpa using hC, by simp [compEnvC], ⟨_, hn, fun y j h1 h2 sv h3 => ?_⟩, fun y j h1 h2 => ?_, S.inj, fun y hy => .inl (hl y (beq_iff_eq.mp hy))⟩
  · rcases S.nms y j h1 with ⟨rfl, rfl⟩ | ⟨rfl, rfl⟩ | ⟨hf, _, _⟩
    · rcases set_get h3 with ⟨q, _⟩ | ⟨_, h3⟩
      · exact (S.ne q).elim
      · rcases set_get h3 with ⟨_, rfl⟩ | ⟨q, _⟩
        · exact .inl rfl
        · exact (q rfl).elim
    · rcases set_get h3 with ⟨_, rfl⟩ | ⟨q, _⟩
      · exact .inl rfl
      · exact (q rfl).elim
    · rcases relabel_free (env := env) hf with q | q
      · exfalso
        have : (compEnvC sc cl C env).kindOf y = some .cell := q
        rw [this] at h2; cases h2
      · exfalso
        have : (compEnvC sc cl C env).kindOf y = some .free := q
        rw [this] at h2; cases h2
  · rcases S.nms y j h1 with ⟨rfl, rfl⟩ | ⟨rfl, rfl⟩ | ⟨hf, hj, hji⟩
    · exact (h2 (hl y S.x1l)).elim
    · exact (h2 (hl y S.x2l)).elim
    · have hmem := mem_of_lookup hf
      obtain ⟨_, hko⟩ := S.free _ hmem rfl
      have hnl : env.kindOf y ≠ some .local := by rcases hko with q | q <;> rw [show env.kindOf y = _ from q] <;> decide
      obtain ⟨_, cc, ov, g3, g4, g5, g6, g7, g8⟩ := F.cells y j hj hnl
      refine ⟨relabel_free hf, cc, ov, ?_, g4, fun sv q => ?_, hne cc ⟨y, j, hj, hnl, g3⟩, g7, g8⟩
      · show cl.lookup y = some cc
        rw [hcl _ hmem rfl, g3]
      · rcases set_get q with ⟨e, _⟩ | ⟨_, q⟩
        · exact (hji.2 e).elim
        · rcases set_get q with ⟨e, _⟩ | ⟨_, q⟩
          · exact (hji.1 e).elim
          · exact g5 sv q

theorem codeAny_compLoop_testsT {R : Result → Shared → Prop} {elt target iter : Expr} {ifs : List Expr} {scope : Scope} {pos : Pos} {it acc : Value} {env : Env} (I : Nat → Shared → Prop)
    (turn : ∀ n s, I n s → wpAny (model g.prog g.w) A (pyNext it) (fun r s₁ => match r with
      | none => R (.ok .next) s₁
      | some v => wpAny (model g.prog g.w) A (letOwnedTupleGo target it v) (fun _ s₁' => wpAny (model g.prog g.w) A (assign target env v) (fun _ s₂ =>
          wpAny (model g.prog g.w) A (forIn ifs true fun c r => if r = true then do let ok ← isTrue c env (eval c env); pure (ForInStep.yield ok) else pure (ForInStep.yield r)) (fun ok s₃ =>
            if ok = true then wpAny (model g.prog g.w) A (eval elt env) (fun x s₄ =>
              wpAny (model g.prog g.w) A (call (.builtin "list.append") [acc, x]) (fun _ s₅ => ∃ m, m < n ∧ I m s₅) (notedBy (model g.prog g.w) A env fun e s' => R (.error e) s') s₄) (notedBy (model g.prog g.w) A env fun e s' => R (.error e) s') s₃
            else ∃ m, m < n ∧ I m s₃) (notedBy (model g.prog g.w) A env fun e s' => R (.error e) s') s₂) (notedBy (model g.prog g.w) A env fun e s' => R (.error e) s') s₁') (notedBy (model g.prog g.w) A env fun e s' => R (.error e) s') s₁) (notedBy (model g.prog g.w) A env fun e s' => R (.error e) s') s)
    (n : Nat) (h : I n s) :
    codeAny (model g.prog g.w) A (.compLoop (.ListComp elt [⟨target, iter, ifs, 0⟩] scope pos) 0 it acc env) R s := by
  refine codeAny_loop rfl I (fun n s hI => ?_) n h
  show wpAny _ A ((compTurn (.ListComp elt [⟨target, iter, ifs, 0⟩] scope pos) 0 it acc env).onRaise (fun x => do noteFrame x env; theTreesLotGoes x)) _ _ s
  refine wpAny_noted ?_
  rw [compTurn_list]
  refine wpAny_bind (wpAny_standAt (wpAny_bind (wpAny_mono (turn n s hI) (fun r s₁ h₁ => ?_) fun _ _ h' => h')))
  cases r with
  | none => exact wpAny_pure h₁
  | some v =>
    refine wpAny_bind (wpAny_mono h₁ (fun _ s₁' h₁' => ?_) fun _ _ h' => h')
    refine wpAny_bind (wpAny_mono h₁' (fun _ s₂ h₂ => wpAny_bind (wpAny_mono h₂ (fun ok s₃ h₃ => ?_) fun _ _ h' => h')) fun _ _ h' => h')
    cases ok with
    | false => exact wpAny_pure ⟨rfl, h₃⟩
    | true =>
      exact wpAny_bind (wpAny_bind (wpAny_mono h₃ (fun x s₄ h₄ => wpAny_bind (wpAny_mono h₄ (fun _ s₅ h₅ => wpAny_pure (wpAny_pure ⟨rfl, h₅⟩)) fun _ _ h' => h')) fun _ _ h' => h'))

/-- only what stands at these places may be another -/
structure ModW (W : List Addr) (s s' : Shared) : Prop where
  keep : ∀ a o, a ∉ W → s.heap.get? a = some o → s'.heap.get? a = some o
  live : ∀ a ∈ W, ∃ o, s'.heap.get? a = some o
  rest : s'.os = s.os ∧ s'.gens = s.gens
theorem ModW.step {W : List Addr} (m : ModW W s s') : Step g W ad s ad s' := ⟨⟨[], by simp, by simp [adr]⟩, fun a o h1 _ _ e => m.keep a o h1 e, m.rest⟩
theorem ModW.inv {W : List Addr} (m : ModW W s s') (I : InvH g os ad objs s) (hi : ∀ a ∈ W, a ∈ os) : InvH g os ad objs s' := by
  have st := (m.step (g := g) (ad := ad)).stays (os := os) hi
  have n1 : ∀ a ∈ W, a ∉ adr ad := fun a h => I.ap1 a (hi a h)
  have n2 : ∀ a ∈ W, a ∉ g.tabs := fun a h q => (I.ap2 a q).1 (hi a h)
  have n0 : ∀ a ∈ W, g.h₀.get? a = none := fun a h => I.fresh₀ a (mem_mt.mpr (.inl (hi a h)))
  refine ⟨fun a o e => m.keep a o (fun q => by rw [n0 a q] at e; cases e) (I.base a o e), I.fresh₀, fun a ha => ?_, I.nodup, I.ap1, I.ap2, fun a ha => ?_, I.objs.1, fun j o p e1 e2 => ?_⟩
  · by_cases q : a ∈ W
    · exact m.live a q
    · obtain ⟨o, e⟩ := I.live a ha; exact ⟨o, m.keep a o q e⟩
  · obtain ⟨o, e, t⟩ := I.tabs a ha
    exact ⟨o, m.keep a o (fun q => n2 a q ha) e, t.stays st⟩
  · refine (I.objs.2 j o p e1 e2).stays st fun a ha o' e => m.keep a o' (fun q => n1 a q ?_) e
    simp only [List.mem_cons, Option.mem_toList] at ha
    rcases ha with rfl | ha
    · exact adr_of_get e2
    · exact adr_of_get2 e2 ha
theorem ModW.fr {W : List Addr} (m : ModW W s s') (I : InvH g os ad objs s) (hi : ∀ a ∈ W, a ∈ os) (F : FrOk g os own env nm wr ad vars s.heap) (hn : ∀ a ∈ W, env.locals ≠ a ∧ ∀ c, NmCell env nm c → c ≠ a) : FrOk g os own env nm wr ad vars s'.heap :=
  F.step I m.step (own₂ := W) (fun a h => .inl (hi a h)) ⟨fun q => (hn _ q).1 rfl, fun c e q => (hn _ q).2 c e rfl⟩

theorem Stays.dropModW {W : List Addr} (m : ∀ a o, a ∉ W → h.get? a = some o → h'.get? a = some o) : Stays g (W ++ os) ad h os ad h' := by
  refine ⟨fun a o ⟨q, n⟩ => ⟨m a o (fun e => n (mem_mt.mpr (.inl (List.mem_append_left _ e)))) q, fun hm => n ?_⟩, fun _ _ e => e⟩
  rw [mem_mt] at hm ⊢
  exact hm.imp (fun x => List.mem_append_right _ x) id
theorem Inv.dropModW {W : List Addr} (I : Inv g (W ++ os) own env nm wr ad σ s) (hb : ∀ b ∈ W, b ∉ os) (ho : ∀ a ∈ own, a ∈ os) (hn : ∀ b ∈ W, env.locals ≠ b ∧ ∀ a, NmCell env nm a → a ≠ b)
    (m : ∀ a o, a ∉ W → s.heap.get? a = some o → s'.heap.get? a = some o) : Inv g os own env nm wr ad σ s' := by
  have n1 : ∀ b ∈ W, b ∉ adr ad := fun b hb => I.H.ap1 b (List.mem_append_left _ hb)
  have n2 : ∀ b ∈ W, b ∉ g.tabs := fun b hb q => (I.H.ap2 b q).1 (List.mem_append_left _ hb)
  have n0 : ∀ b ∈ W, g.h₀.get? b = none := fun b hb => I.H.fresh₀ b (mem_mt.mpr (.inl (List.mem_append_left _ hb)))
  have st : Stays g (W ++ os) ad s.heap os ad s'.heap := Stays.dropModW m
  refine ⟨⟨fun a o e => m a o (fun q => by rw [n0 a q] at e; cases e) (I.H.base a o e), fun a ha => I.H.fresh₀ a ?_, fun a ha => ?_, I.H.nodup, fun a ha => I.H.ap1 a (List.mem_append_right _ ha), fun a ha => ⟨fun q => (I.H.ap2 a ha).1 (List.mem_append_right _ q), (I.H.ap2 a ha).2⟩, fun a ha => ?_, I.H.objs.1, fun j o p e1 e2 => ?_⟩, I.F.kind, I.F.glob, I.F.blt, ho, I.F.loc, ?_, ?_, I.F.inj, I.F.wr⟩
  · rw [mem_mt] at ha ⊢
    exact ha.imp (fun x => List.mem_append_right _ x) id
  · obtain ⟨o, e⟩ := I.H.live a (List.mem_append_right _ ha)
    exact ⟨o, m a o (fun q => hb a q ha) e⟩
  · obtain ⟨o, e, t⟩ := I.H.tabs a ha
    exact ⟨o, m a o (fun q => n2 a q ha) e, t.stays st⟩
  · refine (I.H.objs.2 j o p e1 e2).stays st fun a ha o' e => m a o' (fun q => n1 a q ?_) e
    simp only [List.mem_cons, Option.mem_toList] at ha
    rcases ha with rfl | ha
    · exact adr_of_get e2
    · exact adr_of_get2 e2 ha
  · obtain ⟨mm, ⟨o, es, ep, q, r⟩, hv⟩ := I.F.ns
    exact ⟨mm, ⟨o, es, ep, m _ _ (fun q => (hn _ q).1 rfl) q, r⟩, fun x i h1 h2 sv h3 => (hv x i h1 h2 sv h3).stays st⟩
  · intro x i h1 h2
    obtain ⟨hk, cc, ov, h3, ⟨o, h4, h4'⟩, h5, h6, h7, h8⟩ := I.F.cells x i h1 h2
    exact ⟨hk, cc, ov, h3, ⟨o, m _ _ (fun q => (hn _ q).2 cc ⟨x, i, h1, h2, h3⟩ rfl) h4, h4'⟩, fun sv q => (h5 sv q).stays st, h6, h7, h8⟩

/-- where the pairs come from -/
structure Src (g : G) (A : Around) (I : Addr) (new src W : List Addr) (l : List SV) (Pt : Nat → Array Value → Prop) (St : Nat → Heap → Prop) (Mid : Nat → Addr → Heap → Prop) : Prop where
  walk : WalksT g.prog g.w A I (new ++ src) W l.length Pt St Mid
  sub : ∀ a ∈ W, a ∈ new
  live : ∀ i h, St i h → ∀ b ∈ W, ∃ o, h.get? b = some o

theorem Stays.rfl' : Stays g os ad h os ad h := ⟨fun _ _ x => x, fun _ _ e => e⟩
theorem Stays.comp {os'' : List Addr} {h'' : Heap} (a : Stays g os ad h os' ad' h') (b : Stays g os' ad' h' os'' ad'' h'') : Stays g os ad h os'' ad'' h'' := ⟨fun x o e => b.fz x o (a.fz x o e), fun i p e => b.pre i p (a.pre i p e)⟩

/-- the loop of a comprehension with two targets -/
theorem comp_loop2 {ee ie : Expr} {px1 px2 pt pos : Pos} {xk : Nat} {cenv : Env} {D it : Addr} {l : List SV} {We : St → (SV → St → Prop) → Prop}
    {R : Result → Shared → Prop} {adS : AD} {sS : Shared} {wrc : Str → Bool} {KK : List SV → St → Prop} {new src W : List Addr} {Pt : Nat → Array Value → Prop} {Sti : Nat → Heap → Prop} {Mid : Nat → Addr → Heap → Prop}
    (hA : AOk A ℓ) (hw1 : wrc x1 = true) (hw2 : wrc x2 = true) (hx1 : nm'.lookup x1 = some i1) (hx2 : nm'.lookup x2 = some i2) (hlD : cenv.locals ≠ D) (hnew : ∀ a ∈ new, a ∈ os ∧ a ≠ D ∧ cenv.locals ≠ a ∧ ∀ b, NmCell cenv nm' b → b ≠ a) (hcl : ∀ a, NmCell cenv nm' a → a ≠ D)
    (hDi : D ∈ os ∧ cenv.locals ∈ os) (hll : l.length ≤ lim)
    (S : Src g A it new src W l Pt Sti Mid) (hsrc : ∀ b ∈ src, ∃ o, Fz g os adS sS.heap b o)
    (hP : ∀ k vals, Pt k vals → ∃ x y, l[k]? = some (.tup [x, y]) ∧ RepL g os adS sS.heap [x, y] vals.toList)
    (HS : InvH g os adS objs' sS)
    (he : TrE g N c ℓ We cenv nm' (eval ee cenv))
    (fin : ∀ ad' σ' s' acc vs n, KK acc σ' → Inv g os [cenv.locals] cenv nm' wrc ad' σ' s' → s'.heap.get? D = some (lstObj vs n) → RepL g os ad' s'.heap acc vs → Step g (cenv.locals :: D :: W) adS sS ad' s' →
      ∀ s'', (∀ a o, a ∉ W → s'.heap.get? a = some o → s''.heap.get? a = some o) → s''.os = s'.os ∧ s''.gens = s'.gens → R (.ok .next) s'') :
    ∀ (rest : List SV) (k : Nat) (ad' : AD) (σ' : St) (s' : Shared) (acc : List SV) (vs : List Value) (n : Nat), l = l.take k ++ rest → k + rest.length = l.length → compW We (fun σ K => K true σ) [i1, i2] (fun _ => True) rest acc σ' KK → Inv g os [cenv.locals] cenv nm' wrc ad' σ' s' →
      Stays g os adS sS.heap os ad' s'.heap → Sti k s'.heap → s'.heap.get? D = some (lstObj vs n) → RepL g os ad' s'.heap acc vs → acc.length ≤ k → Step g (cenv.locals :: D :: W) adS sS ad' s' →
      codeAny (model g.prog g.w) A (.compLoop (.ListComp ee [⟨.Tuple [.Name x1 px1, .Name x2 px2] xk pt, ie, [], 0⟩] sc pos) 0 (.ref it) (.ref D) cenv) R s' := by
  intro rest k ad' σ' s' acc vs n h1 h2 h3 h4 h5 h6 h7 h8 h9 h10
  have hWos : ∀ a ∈ W, a ∈ os := fun a h => (hnew a (S.sub a h)).1
  have hown : ∀ a ∈ cenv.locals :: D :: W, a ∈ os := by
    intro a ha
    rcases List.mem_cons.mp ha with rfl | ha
    · exact hDi.2
    · rcases List.mem_cons.mp ha with rfl | ha
      · exact hDi.1
      · exact hWos a ha
  have hDW : D ∉ W := fun q => (hnew D (S.sub D q)).2.1 rfl
  have hCW : cenv.locals ∉ W := fun q => (hnew _ (S.sub _ q)).2.2.1 rfl
  refine codeAny_compLoop_testsT (fun m s => ∃ (rest : List SV) (k : Nat) (ad' : AD) (σ' : St) (acc : List SV) (vs : List Value) (n : Nat), m = rest.length ∧ l = l.take k ++ rest ∧ k + rest.length = l.length ∧ compW We (fun σ K => K true σ) [i1, i2] (fun _ => True) rest acc σ' KK ∧ Inv g os [cenv.locals] cenv nm' wrc ad' σ' s ∧
      Stays g os adS sS.heap os ad' s.heap ∧ Sti k s.heap ∧ s.heap.get? D = some (lstObj vs n) ∧ RepL g os ad' s.heap acc vs ∧ acc.length ≤ k ∧ Step g (cenv.locals :: D :: W) adS sS ad' s) ?_ rest.length ⟨rest, k, ad', σ', acc, vs, n, rfl, h1, h2, h3, h4, h5, h6, h7, h8, h9, h10⟩
  clear h1 h2 h3 h4 h5 h6 h7 h8 h9 h10
  rintro _ s ⟨rest, k, ad, σ, acc, vs, n, rfl, h1, h2, w, I, rs, iti, hD, ra, hk, st⟩
  cases rest with
  | nil =>
    obtain ⟨_, w⟩ := w
    have ek : k = l.length := by simpa using h2
    subst ek
    refine S.walk.done s _ _ iti fun h' tk q => ?_
    exact fin ad σ s acc vs n w I hD ra st _ (fun a o ha e => q a o ha e) ⟨rfl, rfl⟩
  | cons y rest =>
    obtain ⟨_, w⟩ := w
    have hk1 : k < l.length := by simp at h2; omega
    have hy : l[k]? = some y := by
      have hkl : (l.take k).length = k := by simp; omega
      have e : l[k]? = (l.take k ++ y :: rest)[k]? := congrArg (fun z : List SV => z[k]?) h1
      rw [e, List.getElem?_append_right (by omega), hkl]; simp
    refine S.walk.item k s _ _ hk1 iti fun T vals ha tk hpt hT hTu hmid hka => ?_
    obtain ⟨xa, xb, hyl, rab⟩ := hP k vals hpt
    rw [hy] at hyl
    cases hyl
    have rab1 := rab.stays rs
    show wpAny _ A (letOwnedTupleGo _ _ (.ref T)) _ _ _
    refine S.walk.go _ _ _ k T _ _ _ hmid fun hb itb hkb => ?_
    have hTW := S.walk.apart k T ha hmid
    have m1 : ModW W s { s with heap := hb, toks := tk } := ⟨fun a o q e => hkb a o q (hka a o q e), fun a q => S.live _ _ itb a q, rfl, rfl⟩
    generalize hs1 : ({ s with heap := hb, toks := tk } : Shared) = s1 at m1
    have eh1 : s1.heap = hb := by rw [← hs1]
    have hTu1 : s1.heap.IsTuple T vals := by
      obtain ⟨o, e, r⟩ := hTu
      exact ⟨o, by rw [eh1]; exact hkb T o hTW e, r⟩
    have I1 : Inv g os [cenv.locals] cenv nm' wrc ad σ s1 := ⟨m1.inv I.H hWos, m1.fr I.H hWos I.F fun a q => (hnew a (S.sub a q)).2.2⟩
    have t1 : Step g (cenv.locals :: D :: W) ad s ad s1 := (m1.step (g := g) (ad := ad)).weaken fun a ha => .inl (by simp [ha])
    have S1 := Step.trans HS hown I.H st t1
    have z1 : Stays g os ad s.heap os ad s1.heap := m1.step.stays hWos
    have hD1 := m1.keep _ _ hDW hD
    have itb1 : Sti (k + 1) s1.heap := by rw [eh1]; exact itb
    have hc : ckN nm' wrc [i1, i2] [.Name x1 px1, .Name x2 px2] = true := by simp [ckN, hw1, hw2, hx1, hx2]
    have hsz : vals.toList.length = 2 := rab.length
    obtain ⟨g1, g2⟩ := ckN_star (env := cenv) hc
    have key : wpAny (model g.prog g.w) A (assign (.Tuple [.Name x1 px1, .Name x2 px2] xk pt) cenv (.ref T)) (fun _ s₂ =>
          wpAny (model g.prog g.w) A (forIn [] true fun c r => if r = true then do let ok ← isTrue c cenv (eval c cenv); pure (ForInStep.yield ok) else pure (ForInStep.yield r)) (fun ok s₃ =>
            if ok = true then wpAny (model g.prog g.w) A (eval ee cenv) (fun x s₄ =>
              wpAny (model g.prog g.w) A (call (.builtin "list.append") [.ref D, x]) (fun _ s₅ => ∃ m, m < rest.length + 1 ∧ ∃ (rest : List SV) (k : Nat) (ad' : AD) (σ' : St) (acc : List SV) (vs : List Value) (n : Nat), m = rest.length ∧ l = l.take k ++ rest ∧ k + rest.length = l.length ∧ compW We (fun σ K => K true σ) [i1, i2] (fun _ => True) rest acc σ' KK ∧ Inv g os [cenv.locals] cenv nm' wrc ad' σ' s₅ ∧
      Stays g os adS sS.heap os ad' s₅.heap ∧ Sti k s₅.heap ∧ s₅.heap.get? D = some (lstObj vs n) ∧ RepL g os ad' s₅.heap acc vs ∧ acc.length ≤ k ∧ Step g (cenv.locals :: D :: W) adS sS ad' s₅) (notedBy (model g.prog g.w) A cenv fun e s' => R (.error e) s') s₄) (notedBy (model g.prog g.w) A cenv fun e s' => R (.error e) s') s₃
            else ∃ m, m < rest.length + 1 ∧ ∃ (rest : List SV) (k : Nat) (ad' : AD) (σ' : St) (acc : List SV) (vs : List Value) (n : Nat), m = rest.length ∧ l = l.take k ++ rest ∧ k + rest.length = l.length ∧ compW We (fun σ K => K true σ) [i1, i2] (fun _ => True) rest acc σ' KK ∧ Inv g os [cenv.locals] cenv nm' wrc ad' σ' s₃ ∧
      Stays g os adS sS.heap os ad' s₃.heap ∧ Sti k s₃.heap ∧ s₃.heap.get? D = some (lstObj vs n) ∧ RepL g os ad' s₃.heap acc vs ∧ acc.length ≤ k ∧ Step g (cenv.locals :: D :: W) adS sS ad' s₃) (notedBy (model g.prog g.w) A cenv fun e s' => R (.error e) s') s₂) (notedBy (model g.prog g.w) A cenv fun e s' => R (.error e) s') s1 := by
      refine wpAny_assign_Tuple hA.1 (items := vals) hTu1 (by rw [g2, ← Array.length_toList, hsz]; rfl) g1 fun h2' he2 => ?_
      have m2 : Mono s1 { s1 with heap := h2' } := ⟨fun b o e => he2 b o (Nat.ne_of_lt (Heap.lt_size e)) e, rfl, rfl⟩
      have I2 := I1.mono m2
      have z2 := m2.stays (g := g) (os := os) (ad := ad)
      refine stores_ok hc I2 ((rab1.stays z1).stays z2) (by simp) fun s3 I3 S3 => ?_
      have t2 : Step g (cenv.locals :: D :: W) ad s1 ad { s1 with heap := h2' } := (m2.step (g := g) (own := []) (ad := ad)).weaken (by simp)
      have S2 := Step.trans HS hown I1.H S1 t2
      have t3 : Step g (cenv.locals :: D :: W) ad { s1 with heap := h2' } ad s3 := S3.weaken fun a ha => .inl (by simp at ha; simp [ha])
      have S3' := Step.trans HS hown I2.H S2 t3
      have z3 : Stays g os ad h2' os ad s3.heap := I2.stO S3
      have nA : ∀ {adx : AD} {objsx : List AO} {sx : Shared}, InvH g os adx objsx sx → ∀ a ∈ os, a ∉ adr adx ∧ a ∉ g.tabs := fun H a ha => ⟨H.ap1 a ha, fun q => (H.ap2 a q).1 ha⟩
      have hD2 := m2.keep _ _ hD1
      have hD3 := S3.keep D _ (by simpa using Ne.symm hlD) (nA I2.H D hDi.1).1 (nA I2.H D hDi.1).2 hD2
      have frm : ∀ {sx sy : Shared} {adx ady : AD} {objsx : List AO} {o₂ : List Addr} (j : Nat), InvH g os adx objsx sx → Stays g os adS sS.heap os adx sx.heap → Step g o₂ adx sx ady sy → Stays g os adx sx.heap os ady sy.heap → (∀ a ∈ new, a ∉ o₂) → Sti j sx.heap → Sti j sy.heap := by
        intro sx sy adx ady objsx o₂ j H zz stp zs hno hh
        refine S.walk.frame j _ _ hh fun b hb o e => ?_
        rcases List.mem_append.mp hb with hb | hb
        · exact stp.keep b o (hno b hb) (nA H b (hnew b hb).1).1 (nA H b (hnew b hb).1).2 e
        · obtain ⟨o', fz⟩ := hsrc b hb
          have f1 := zz.fz _ _ fz
          have f2 := zs.fz _ _ f1
          rw [f1.1] at e; cases e
          exact f2.1
      have Z1 := rs.comp z1
      have Z2 := Z1.comp z2
      have Z3 := Z2.comp z3
      have it2 : Sti (k + 1) h2' := frm (sx := s1) (sy := { s1 with heap := h2' }) (k + 1) I1.H Z1 (m2.step (g := g) (own := []) (ad := ad)) z2 (by simp) itb1
      have it3 : Sti (k + 1) s3.heap := frm (sx := { s1 with heap := h2' }) (sy := s3) (k + 1) I2.H Z2 S3 z3 (fun a ha q => (hnew a ha).2.2.1 (by simpa using (List.mem_singleton.mp q).symm)) it2
      rw [List.forIn_nil]
      refine wpAny_pure ?_
      rw [if_pos rfl]
      have e1 : l = l.take (k + 1) ++ rest := by
        have : l.take (k + 1) = l.take k ++ [.tup [xa, xb]] := by
          rw [List.take_add_one, hy]; rfl
        rw [this, List.append_assoc]; exact h1
      have e2 : k + 1 + rest.length = l.length := by simp at h2; omega
      have w' : We ⟨setvs σ.vars [i1, i2] [xa, xb], σ.objs⟩ fun y σ'' => compW We (fun σ K => K true σ) [i1, i2] (fun _ => True) rest (acc ++ [y]) σ'' KK := by
        have := w
        simp only [asgW] at this
        exact this.2
      refine he os [cenv.locals] wrc A ad _ s3 _ _ _ hA I3 w' fun v y' ad4 σ4 s4 w4 r4 I4 t4 => ?_
      have S4 := Step.trans HS hown I3.H S3' (t4.weaken (by simp))
      have z4 := I3.sts t4
      have hD4 := t4.keep D _ (by simp) (nA I3.H D hDi.1).1 (nA I3.H D hDi.1).2 hD3
      have it4 : Sti (k + 1) s4.heap := frm (k + 1) I3.H Z3 t4 z4 (by simp) it3
      have ra4 : RepL g os ad4 s4.heap acc vs := (((ra.stays z1).stays z2).stays z3).stays z4
      refine wpAny_list_append_plain ⟨n, hD4⟩ (fun h' ⟨n', hp⟩ hs' => ?_) ?_
      · have m5 : ModI D s4 { s4 with heap := h' } := mod_same' ⟨_, hp⟩ hs'
        have t5 : Step g (cenv.locals :: D :: W) ad4 s4 ad4 { s4 with heap := h' } := (m5.step (g := g) (ad := ad4)).weaken fun a ha => .inl (by simp at ha; simp [ha])
        have z5 : Stays g os ad4 s4.heap os ad4 h' := m5.step.stays (by simpa using hDi.1)
        refine ⟨_, Nat.lt_succ_self _, rest, k + 1, ad4, σ4, acc ++ [y'], vs ++ [v], n', rfl, e1, e2, w4, ⟨m5.inv I4.H hDi.1, m5.fr I4.H hDi.1 I4.F ⟨hlD, fun a q => hcl a q⟩⟩, (Z3.comp z4).comp z5, ?_, ?_, (ra4.append (.one r4)).stays z5, by simp; omega, Step.trans HS hown I4.H S4 t5⟩
        · exact frm (sy := { s4 with heap := h' }) (k + 1) I4.H (Z3.comp z4) (m5.step (g := g) (ad := ad4)) z5 (fun a ha q => (hnew a ha).2.1 (List.mem_singleton.mp q)) it4
        · rw [hp]; simp [lstObj]
      · rw [List.size_toArray, ra4.length, sizeLine_eq]
        simp only [lim] at hll
        omega
    subst hs1
    exact key
end
end Vc
end
section
open PySem PySem.W PyProof.Rows PySem.Calls
set_option maxRecDepth 10000
set_option autoImplicit false
set_option linter.unusedVariables false
set_option linter.unusedSectionVars false
namespace Vc
section
variable {g : G} {N : Nms} {c : C} {ℓ : Nat} {env : Env} {nm nm' : List (Str × Nat)} {os os' own : List Addr} {wr : Str → Bool} {ad ad' ad'' : AD} {σ σ' σ'' : St} {s s' s'' : Shared} {A : Around} {E : Value → Shared → Prop} {objs objs' : List AO} {vars : List SV} {h h' : Heap} {sc : Scope} {x1 x2 : Str} {i1 i2 : Nat}

/-- something gives pairs -/
def TrZ (g : G) (N : Nms) (c : C) (ℓ : Nat) (Wz : St → (List SV → St → Prop) → Prop) (env : Env) (nm : List (Str × Nat)) (t : Sem Value) : Prop :=
  ∀ (os own : List Addr) (wr : Str → Bool) (A : Around) (ad : AD) (σ : St) (s : Shared) (K : List SV → St → Prop) (Q E : Value → Shared → Prop), AOk A ℓ → Inv g os own env nm wr ad σ s → Wz σ K →
    (∀ (l : List SV) (it : Addr) (new src W : List Addr) Pt Sti Mid (ad1 : AD) (σ1 : St) (s1 s2 : Shared), K l σ1 → Src g A it new src W l Pt Sti Mid → it ∈ new → Sti 0 s2.heap → (∀ b ∈ src, ∃ o, Fz g os ad1 s1.heap b o) →
      (∀ k vals, Pt k vals → ∃ x y, l[k]? = some (.tup [x, y]) ∧ RepL g os ad1 s1.heap [x, y] vals.toList) →
      Inv g os own env nm wr ad1 σ1 s1 → Step g [] ad s ad1 s1 → Mono s1 s2 → (∀ a ∈ new, s1.heap.get? a = none) → (∀ a ∈ new, ∃ o, s2.heap.get? a = some o) → Q (.ref it) s2) →
    wpAny (model g.prog g.w) A t Q E s

/-- a comprehension with two targets, its value used or handed on -/
theorem comp_ok2 {ee ie : Expr} {px1 px2 pt pos p0 : Pos} {xk : Nat} {Wi : St → (List SV → St → Prop) → Prop} {We : St → (SV → St → Prop) → Prop} {mu : Bool} {K : SV → St → Prop} {use : Option (Value → Sem Unit)} {Q : Value → Shared → Prop}
    (Sc : CompS2 env nm nm' sc x1 x2 i1 i2) (hs : ∀ z, foldedSetIterable ie env z = pure z)
    (hi : TrZ g N c ℓ Wi env nm (eval ie env))
    (he : ∀ cl C, TrE g N c ℓ We (compEnvC sc cl C env) nm' (eval ee (compEnvC sc cl C env)))
    (hA : AOk A ℓ) (I : Inv g os own env nm wr ad σ s)
    (w : Wi σ fun l σ1 => l.length ≤ lim ∧ compW We (fun σ K => K true σ) [i1, i2] (fun _ => True) l [] ⟨clrs σ1.vars [i1, i2], σ1.objs⟩ fun acc σ2 => mkW mu acc σ2.objs fun r objs => K r ⟨σ.vars, objs⟩)
    (fin : ∀ (D C : Addr) (r : SV) (ad' : AD) (objs' : List AO) (s' : Shared), K r ⟨σ.vars, objs'⟩ → Rep g (C :: os) ad' s'.heap r (.ref D) → Inv g (C :: os) own env nm wr ad' ⟨σ.vars, objs'⟩ s' → Step g [] ad s ad' s' → (∃ m, s'.heap.Ns C m) → s.heap.get? C = none →
      C ∉ os → (env.locals ≠ C ∧ ∀ a, NmCell env nm a → a ≠ C) → compPost (model g.prog g.w) A E use Q (.ref D) C (.ok .next) s') :
    wpAny (model g.prog g.w) A (comprehension (.ListComp ee [⟨.Tuple [.Name x1 px1, .Name x2 px2] xk pt, ie, [], 0⟩] sc pos) sc env p0 (newList []) false (eval ie env) use) Q E s := by
  obtain ⟨cl, hclos, hcl1, hcl2⟩ := closure_ok (scope := sc) (env := env) fun p hp hf => by
    obtain ⟨⟨j, hj⟩, hko⟩ := Sc.free p hp hf
    have hnl : env.kindOf p.1 ≠ some .local := by rcases hko with q | q <;> rw [q] <;> decide
    obtain ⟨_, cc, ov, g3, _⟩ := I.F.cells p.1 j hj hnl
    exact ⟨cc, g3⟩
  refine wpAny_comprehension_free (use := use) (g := ⟨.Tuple [.Name x1 px1, .Name x2 px2] xk pt, ie, [], 0⟩) (gs := []) rfl hs hclos Sc.kind Sc.loc ?_
  refine hi os own wr A ad σ s _ _ E hA I w fun l it new src W Pt Sti Mid ad1 σ1 s1 s2 w1 SR hit it2 hsrc hP I1 S1 m2 hf2 hl2 => ?_
  obtain ⟨hl, w1⟩ := w1
  have F1 : FrOk g os own env nm wr ad1 σ.vars s1.heap := I.F.step I.H S1 (by simp) (by simp)
  refine SR.walk.self 0 _ _ _ it2 ?_
  refine wpAny_newList ?_ (by simp)
  have szf : ∀ H : Heap, H.get? H.objs.size = none := fun H => by
    cases q : H.get? H.objs.size with
    | none => rfl
    | some o => exact absurd (Heap.lt_size q) (Nat.lt_irrefl _)
  generalize hD : s2.heap.objs.size = D
  have hfD : s2.heap.get? D = none := hD ▸ szf _
  generalize hH3 : s2.heap.push { cls := .type "list", data := .seq ([] : List Value).toArray } = H3
  have eD3 : H3.get? D = some (lstObj [] 0) := by rw [← hH3, ← hD]; exact Heap.get?_push_size _ rfl
  have k23 : ∀ a o, s2.heap.get? a = some o → H3.get? a = some o := fun a o e => by rw [← hH3]; exact Heap.get?_push_of_some _ e
  refine wpAny_newFunctionEnv Sc.cell (by simp) (fun h4 hns hsb => ?_) Sc.kind
  simp only [List.length_nil, Nat.add_zero] at hns hsb ⊢
  generalize hC : H3.objs.size = C at hns hsb
  have hfC : H3.get? C = none := hC ▸ szf _
  have k34 : ∀ a o, H3.get? a = some o → h4.get? a = some o := fun a o e => hsb.extBut a o (none_ne e hfC) (Heap.get?_push_of_some _ e)
  have hCl : ∃ o, h4.get? C = some o := let ⟨o, _, _, e, _⟩ := hns; ⟨o, e⟩
  have hDl := k34 _ _ eD3
  have hCD : D ≠ C := none_ne eD3 hfC
  have hnD : ∀ a ∈ new, a ≠ D := fun a h => let ⟨o, e⟩ := hl2 a h; none_ne e hfD
  have hnC : ∀ a ∈ new, a ≠ C := fun a h => let ⟨o, e⟩ := hl2 a h; none_ne (k23 _ _ e) hfC
  have hf1 : ∀ a ∈ new ++ [D, C], s1.heap.get? a = none := by
    intro a ha
    cases q : s1.heap.get? a with
    | none => rfl
    | some o =>
      have q2 := m2.keep _ _ q
      simp only [List.mem_append, List.mem_cons, List.not_mem_nil, or_false] at ha
      rcases ha with ha | rfl | rfl
      · rw [hf2 a ha] at q; cases q
      · rw [hfD] at q2; cases q2
      · rw [k23 _ _ q2] at hfC; cases hfC
  have M : Mono s1 { heap := h4, gens := s2.gens, drawn := s2.drawn, toks := s2.toks, os := s2.os } := ⟨fun a o e => k34 _ _ (k23 _ _ (m2.keep _ _ e)), m2.rest⟩
  have lv : ∀ a ∈ new ++ [D, C], ∃ o, h4.get? a = some o := by
    intro a ha
    simp only [List.mem_append, List.mem_cons, List.not_mem_nil, or_false] at ha
    rcases ha with ha | rfl | rfl
    · obtain ⟨o, e⟩ := hl2 a ha
      exact ⟨_, k34 _ _ (k23 _ _ e)⟩
    · exact ⟨_, hDl⟩
    · exact hCl
  generalize hs4 : ({ heap := h4, gens := s2.gens, drawn := s2.drawn, toks := s2.toks, os := s2.os } : Shared) = s4 at M
  have es4 : s4.heap = h4 := by rw [← hs4]
  have eos : (new ++ [D, C]) ++ os = new ++ (D :: C :: os) := by simp
  have Z4 : Stays g os ad1 s1.heap (new ++ (D :: C :: os)) ad1 s4.heap := eos ▸ Stays.grow M hf1
  have I4 : Inv g (new ++ (D :: C :: os)) own env nm wr ad1 ⟨σ.vars, σ1.objs⟩ s4 := eos ▸ ⟨I1.H.grow M hf1 (by rw [es4]; exact lv), F1.grow M hf1⟩
  have nC : ∀ a, NmCell env nm a → a ≠ D ∧ a ≠ C ∧ ∀ b ∈ new, a ≠ b := fun a y => by
    obtain ⟨o, e⟩ := F1.live y
    exact ⟨none_ne e (hf1 D (by simp)), none_ne e (hf1 C (by simp)), fun b hb => none_ne e (hf1 b (by simp [hb]))⟩
  have nL : env.locals ≠ D ∧ env.locals ≠ C ∧ ∀ b ∈ new, env.locals ≠ b := by
    obtain ⟨m, ⟨o, _, _, e, _⟩, _⟩ := F1.ns
    exact ⟨none_ne e (hf1 D (by simp)), none_ne e (hf1 C (by simp)), fun b hb => none_ne e (hf1 b (by simp [hb]))⟩
  have F1v : FrOk g os own env nm wr ad1 σ1.vars s1.heap := I1.F
  have FC : FrOk g (new ++ (D :: C :: os)) [C] (compEnvC sc cl C env) nm' (cwr sc) ad1 ((σ1.vars.set i1 .unb).set i2 .unb) s4.heap :=
    comp_fr2 Sc (eos ▸ F1v.grow M hf1) (by simp) (by rw [es4]; simpa using hns) hcl1 fun a y => (nC a y).2.1
  have Icomp : Inv g (new ++ (D :: C :: os)) [C] (compEnvC sc cl C env) nm' (cwr sc) ad1 ⟨(σ1.vars.set i1 .unb).set i2 .unb, σ1.objs⟩ s4 := ⟨I4.H, FC⟩
  have compC : ∀ a, NmCell (compEnvC sc cl C env) nm' a → a ≠ D ∧ ∀ b ∈ new, a ≠ b := fun a ⟨y, j, h1, h2, h3⟩ => by
    rcases Sc.nms y j h1 with ⟨rfl, rfl⟩ | ⟨rfl, rfl⟩ | ⟨hf, hj, _⟩
    · exact (h2 (lookup_relabel_local Sc.x1l)).elim
    · exact (h2 (lookup_relabel_local Sc.x2l)).elim
    · have hmem := mem_of_lookup hf
      have hko := (Sc.free _ hmem rfl).2
      have hnl : env.kindOf y ≠ some .local := by rcases hko with q | q <;> rw [show env.kindOf y = _ from q] <;> decide
      have h3' : cl.lookup y = some a := h3
      have := nC a ⟨y, j, hj, hnl, hcl2 _ _ h3'⟩
      exact ⟨this.1, this.2.2⟩
  have it4 : Sti 0 s4.heap := SR.walk.frame 0 _ _ it2 fun b hb o e => by rw [es4]; exact k34 _ _ (k23 _ _ e)
  have eD4 : s4.heap.get? D = some (lstObj [] 0) := by rw [es4]; exact hDl
  have hos : D ∉ os ∧ C ∉ os ∧ ∀ b ∈ new, b ∉ os := by
    have z : ∀ a ∈ new ++ [D, C], a ∉ os := fun a ha hm => by
      obtain ⟨o, e⟩ := I1.H.live a hm
      rw [hf1 a ha] at e; cases e
    exact ⟨z D (by simp), z C (by simp), fun b hb => z b (by simp [hb])⟩
  have loop : codeAny (model g.prog g.w) A (.compLoop (.ListComp ee [⟨.Tuple [.Name x1 px1, .Name x2 px2] xk pt, ie, [], 0⟩] sc pos) 0 (.ref it) (.ref D) (compEnvC sc cl C env)) (compPost (model g.prog g.w) A E use Q (.ref D) C) s4 := by
    refine comp_loop2 (g := g) (N := N) (c := c) (ℓ := ℓ) (x1 := x1) (x2 := x2) (i1 := i1) (i2 := i2) (wrc := cwr sc) (nm' := nm') (adS := ad1) (sS := s4) (objs' := σ1.objs) (os := new ++ (D :: C :: os)) (new := new) (src := src) (W := W)
      (KK := fun acc σ2 => mkW mu acc σ2.objs fun r objs => K r ⟨σ.vars, objs⟩) hA (by simp [cwr, Sc.x1l]) (by simp [cwr, Sc.x2l]) Sc.x1i Sc.x2i (Ne.symm hCD) (fun a ha => ⟨by simp [ha], hnD a ha, (hnC a ha).symm, fun b hb => (compC b hb).2 a ha⟩) (fun a q => (compC a q).1) (by simp [compEnvC]) hl SR
      (fun b hb => let ⟨o, f⟩ := hsrc b hb; ⟨o, Z4.fz _ _ f⟩) (fun k vals hp => let ⟨x, y, e, r⟩ := hP k vals hp; ⟨x, y, e, r.stays Z4⟩) I4.H (he cl C) ?_
      l 0 ad1 _ s4 [] [] 0 (by simp) (by simp) w1 Icomp Stays.rfl' it4 eD4 RepL.nil (by simp) Step.refl
    intro ad5 σ5 s5 acc vs n k5 I5 hD5 ra5 S5 s6 kp rest6
    have hWn : ∀ a ∈ W, a ∈ new := SR.sub
    have T5 : Step g [] ad1 s1 ad5 s5 := by
      have a := (M.step (g := g) (own := C :: D :: W) (ad := ad1))
      have b := Step.trans (os := new ++ (D :: C :: os)) (objs := σ1.objs) (own := C :: D :: W) (I4.H) (fun a ha => by
        rcases List.mem_cons.mp ha with rfl | ha
        · simp
        · rcases List.mem_cons.mp ha with rfl | ha
          · simp
          · simp [hWn a ha]) I4.H Step.refl S5
      obtain ⟨e, rfl, hfe⟩ := b.ext
      refine ⟨⟨e, rfl, fun a ha => ?_⟩, fun a o h1 h2 h3 q => ?_, b.rest.1.trans M.rest.1, b.rest.2.trans M.rest.2⟩
      · cases q : s1.heap.get? a with
        | none => rfl
        | some o =>
          have := M.keep _ _ q
          rw [hfe a ha] at this; cases this
      · refine b.keep a o ?_ h2 h3 (M.keep _ _ q)
        simp only [List.mem_cons, not_or]
        exact ⟨none_ne q (hf1 C (by simp)), none_ne q (hf1 D (by simp)), fun hw => none_ne q (hf1 a (by simp [hWn a hw])) rfl⟩
    have F5 : FrOk g (new ++ (D :: C :: os)) own env nm wr ad5 σ.vars s5.heap :=
      I4.F.step I4.H (S5 : Step g (C :: D :: W) ad1 s4 ad5 s5) (own₂ := C :: D :: W) (fun a ha => by
        rcases List.mem_cons.mp ha with rfl | ha
        · simp
        · rcases List.mem_cons.mp ha with rfl | ha
          · simp
          · simp [hWn a ha]) ⟨by
        simp only [List.mem_cons, not_or]
        exact ⟨nL.2.1, nL.1, fun q => nL.2.2 _ (hWn _ q) rfl⟩, fun a y => by
        have := nC a y
        simp only [List.mem_cons, not_or]
        exact ⟨this.2.1, this.1, fun q => this.2.2 _ (hWn _ q) rfl⟩⟩
    have m6 : ∀ a o, a ∉ new → s5.heap.get? a = some o → s6.heap.get? a = some o := fun a o q e => kp a o (fun w => q (hWn a w)) e
    have J5 : Inv g (new ++ (D :: C :: os)) own env nm wr ad5 ⟨σ.vars, σ5.objs⟩ s5 := ⟨I5.H, F5⟩
    have J6 : Inv g (D :: C :: os) own env nm wr ad5 ⟨σ.vars, σ5.objs⟩ s6 := J5.dropModW (fun b hb => by
      simp only [List.mem_cons, not_or]
      exact ⟨hnD b hb, hnC b hb, hos.2.2 b hb⟩) (fun a ha => by have := I.F.inOs a ha; simp [this]) (fun b hb => ⟨nL.2.2 b hb, fun a y => (nC a y).2.2 b hb⟩) m6
    have r6 : RepL g (D :: C :: os) ad5 s6.heap acc vs := ra5.stays (Stays.dropModW m6)
    have hDn : D ∉ new := fun q => hnD D q rfl
    have hD6 := m6 D _ hDn hD5
    obtain ⟨xr, ad7, objs7, k7, rx, H7, stp, st7, adr7⟩ := mkOk J6.H (by simp [hCD, hos.1]) hD6 r6 k5
    have T6 : Step g [] ad1 s1 ad5 s6 := ⟨T5.ext, fun a o h1 h2 h3 q => m6 a o (fun hw => none_ne q (hf1 a (by simp [hw])) rfl) (T5.keep a o h1 h2 h3 q), rest6.1.trans T5.rest.1, rest6.2.trans T5.rest.2⟩
    have T7 := stp s1 [] ad1 (hf1 D (by simp)) T6
    have F7 : FrOk g (C :: os) own env nm wr ad7 σ.vars s6.heap := J6.F.change st7 (fun a ha => by have := I.F.inOs a ha; simp [this]) fun a y n q => (adr7 a q).elim n (nC a y).1
    have hsC : s.heap.get? C = none := by
      cases q : s.heap.get? C with
      | none => rfl
      | some o =>
        by_cases hx : C ∈ mt g os ad
        · exfalso
          rcases mem_mt.mp hx with hm | hm | hm
          · exact hos.2.1 hm
          · obtain ⟨e, he', _⟩ := S1.ext
            have hm' : C ∈ adr ad1 := by rw [he', adr_append]; exact List.mem_append_left _ hm
            obtain ⟨o', e1⟩ := I1.H.objs.live C hm'
            rw [hf1 C (by simp)] at e1; cases e1
          · obtain ⟨o', e1, _⟩ := I1.H.tabs C hm
            rw [hf1 C (by simp)] at e1; cases e1
        · rw [mem_mt] at hx
          simp only [not_or] at hx
          have := S1.keep C o (by simp) hx.2.1 hx.2.2 q
          rw [hf1 C (by simp)] at this; cases this
    have ns6 : ∃ m, s6.heap.Ns C m := by
      obtain ⟨m, ⟨o, es, ep, q, r⟩, _⟩ := I5.F.ns
      exact ⟨m, o, es, ep, m6 _ _ (fun q => hnC C q rfl) q, r⟩
    exact fin D C xr ad7 objs7 s6 k7 rx ⟨H7, F7⟩ (S1.trans I.H (by simp) I1.H T7) ns6 hsC hos.2.1 ⟨nL.2.1, fun a y => (nC a y).2.1⟩
  subst hs4
  exact codeAny_compStart_list loop (SR.walk.self 0 _ _ _ it4 loop)

theorem tr_setZ {x : Str} {i : Nat} {p pos px1 px2 pt cpos : Pos} {xk : Nat} {ee ie : Expr} {Wi : St → (List SV → St → Prop) → Prop} {We : St → (SV → St → Prop) → Prop} {mu : Bool} (hw : wr x = true) (hx : nm.lookup x = some i)
    (Sc : CompS2 env nm nm' sc x1 x2 i1 i2) (hs : ∀ z, foldedSetIterable ie env z = pure z)
    (hi : TrZ g N c ℓ Wi env nm (eval ie env))
    (he : ∀ cl C, TrE g N c ℓ We (compEnvC sc cl C env) nm' (eval ee (compEnvC sc cl C env))) :
    TrS g N c ℓ (fun σ K => Wi σ fun l σ1 => l.length ≤ lim ∧ compW We (fun σ K => K true σ) [i1, i2] (fun _ => True) l [] ⟨clrs σ1.vars [i1, i2], σ1.objs⟩ fun acc σ2 => mkW mu acc σ2.objs fun r objs => K .next ⟨σ.vars.set i r, objs⟩)
      env nm wr (exec (.Assign [.Name x p] (.ListComp ee [⟨.Tuple [.Name x1 px1, .Name x2 px2] xk pt, ie, [], 0⟩] sc cpos) pos) env) := by
  intro os own A ad σ s K Q E hA I w post
  obtain ⟨b, hb⟩ : ∃ b, swapsWith (.ListComp ee [⟨.Tuple [.Name x1 px1, .Name x2 px2] xk pt, ie, [], 0⟩] sc cpos) (some (.Name x p)) pos.line env = pure b := ⟨_, rfl⟩
  cases b with
  | false =>
    refine wpAny_Assign1 hb rfl rfl ?_
    rw [eval_ListComp]
    refine comp_ok2 (use := none) (mu := mu) (K := fun r σ' => K .next ⟨σ'.vars.set i r, σ'.objs⟩) Sc hs hi he hA I w ?_
    intro D C r ad' objs' s' k rr I' S ⟨m, hm⟩ hf ho hn
    refine ⟨m, hm, fun h' hs' => ?_⟩
    have kp : ∀ a o, a ≠ C → s'.heap.get? a = some o → h'.get? a = some o := fun a o ha e => hs'.extBut a o ha e
    have I1 := I'.dropMod (s' := { s' with heap := h' }) ho I.F.inOs hn kp
    have S1 : Step g [] ad s ad' { s' with heap := h' } := ⟨S.ext, fun a o h1 h2 h3 q => kp a o (none_ne q hf) (S.keep a o h1 h2 h3 q), S.rest⟩
    exact wpAny_assign_Name (storeN_ok I1 hw hx (rr.stays (Stays.dropMod kp)) fun s2 I2 S2 => post _ .next _ _ _ k trivial I2 (I.tr I1 S1.toOwn S2))
  | true =>
    rw [exec_Assign_arm, show swapsWithSole [.Name x p] (.ListComp ee [⟨.Tuple [.Name x1 px1, .Name x2 px2] xk pt, ie, [], 0⟩] sc cpos) pos.line env = pure true from hb]
    refine wpAny_bind (wpAny_standAt (wpAny_bind (wpAny_pure ?_)))
    rw [if_pos rfl]
    rw [arm_evalThenUse_ListComp]
    refine wpAny_bind ?_
    dsimp only
    refine wpAny_bind (comp_ok2 (mu := mu) (K := fun r σ' => K .next ⟨σ'.vars.set i r, σ'.objs⟩) Sc hs hi he hA I w fun D C r ad' objs' s' k rr I' S ⟨m, hm⟩ hf ho hn => ?_)
    show wpAny _ _ (assign (.Name x p) env (.ref D)) _ _ _
    refine wpAny_assign_Name (store_ok I' hw hx rr fun s3 I3 ⟨a, ha, m3⟩ => ?_)
    have haC : a ≠ C := fun e => ho (e ▸ I.F.inOs a ha)
    obtain ⟨o, es, ep, q1, q2⟩ := hm
    refine ⟨m, ⟨o, es, ep, m3.keep _ _ haC.symm q1, q2⟩, fun h' hs' => wpAny_pure (wpAny_pure ?_)⟩
    have kp : ∀ b o, b ≠ C → s3.heap.get? b = some o → h'.get? b = some o := fun b o hb e => hs'.extBut b o hb e
    have I4 := I3.dropMod (s' := { s3 with heap := h' }) ho I.F.inOs hn kp
    refine post _ .next _ _ _ k trivial I4 ⟨S.ext, fun b o h1 h2 h3 q => kp b o (none_ne q hf) (m3.keep b o (fun e => h1 (e ▸ ha)) (S.keep b o (by simp) h2 h3 q)), ?_⟩
    exact ⟨m3.rest.1.trans S.rest.1, m3.rest.2.trans S.rest.2⟩
end
end Vc
end
section
open PySem PySem.W PyProof.Rows PySem.Calls
set_option maxRecDepth 10000
set_option autoImplicit false
set_option linter.unusedVariables false
set_option linter.unusedSectionVars false
namespace Vc
section
variable {g : G} {N : Nms} {c : C} {ℓ : Nat} {env : Env} {nm nm' : List (Str × Nat)} {os os' own : List Addr} {wr : Str → Bool} {ad ad' ad'' : AD} {σ σ' σ'' : St} {s s' s'' : Shared} {A : Around} {E : Value → Shared → Prop} {objs objs' : List AO} {vars : List SV} {h h' : Heap} {sc : Scope} {x1 x2 : Str} {i1 i2 : Nat}

theorem enumL_get : ∀ (l : List SV) (k j : Nat), (enumL k l)[j]? = (l[j]?).map fun x => .tup [.int ((k + j : Nat) : Int), x]
  | [], k, j => by simp [enumL]
  | x :: l, k, 0 => by simp [enumL]
  | x :: l, k, j + 1 => by
    simp only [enumL, List.getElem?_cons_succ]
    rw [enumL_get l (k + 1) j, show k + 1 + j = k + (j + 1) by omega]
theorem enumL_len : ∀ (l : List SV) (k : Nat), (enumL k l).length = l.length
  | [], k => rfl
  | x :: l, k => by simp [enumL, enumL_len l]

theorem src_enum {a : Addr} {vs : List Value} {n : Nat} {l : List SV} {Q : Value → Shared → Prop} (hh : A.handled = none) (I : InvH g os ad objs s) (f : Fz g os ad s.heap a (lstObj vs n)) (r : RepL g os ad s.heap l vs)
    (k : ∀ (it : Addr) (new src W : List Addr) Pt Sti Mid (s2 : Shared), Src g A it new src W (enumL 0 l) Pt Sti Mid → it ∈ new → Sti 0 s2.heap → (∀ b ∈ src, ∃ o, Fz g os ad s.heap b o) →
      (∀ k vals, Pt k vals → ∃ x y, (enumL 0 l)[k]? = some (.tup [x, y]) ∧ RepL g os ad s.heap [x, y] vals.toList) → Mono s s2 → (∀ a ∈ new, s.heap.get? a = none) → (∀ a ∈ new, ∃ o, s2.heap.get? a = some o) → Q (.ref it) s2) :
    wpAny (model g.prog g.w) A (call (.type "enumerate") [.ref a]) Q E s := by
  have hL := IsL_list f.1
  have hlt : (a : Nat) < s.heap.objs.size := Heap.lt_size f.1
  have nof : ∀ b, s.heap.objs.size ≤ b → s.heap.get? b = none := fun b hb => by
    cases q : s.heap.get? b with
    | none => rfl
    | some o => exact absurd (Heap.lt_size q) (Nat.not_lt.mpr hb)
  refine call_enumerate_list hL fun h' he hi hsz hk => ?_
  have e1 : s.heap.objs.size + 1 ≠ s.heap.objs.size := by first | exact Nat.ne_of_gt (by omega) | exact Nat.ne_of_lt (by omega) | exact Nat.ne_of_lt hlt | exact Nat.ne_of_lt (Nat.lt_of_lt_of_le hlt (Nat.le_add_right _ _))
  have e2 : a ≠ s.heap.objs.size + 1 := by first | exact Nat.ne_of_gt (by omega) | exact Nat.ne_of_lt (by omega) | exact Nat.ne_of_lt hlt | exact Nat.ne_of_lt (Nat.lt_of_lt_of_le hlt (Nat.le_add_right _ _))
  have e3 : a ≠ s.heap.objs.size := by first | exact Nat.ne_of_gt (by omega) | exact Nat.ne_of_lt (by omega) | exact Nat.ne_of_lt hlt | exact Nat.ne_of_lt (Nat.lt_of_lt_of_le hlt (Nat.le_add_right _ _))
  have wk := WalksT.enumerate (prog := g.prog) (w := g.w) (A := A) hh (s.heap.objs.size + 1) s.heap.objs.size a e1 e2 e3 vs.toArray
  have hn : vs.toArray.size = (enumL 0 l).length := by rw [enumL_len, List.size_toArray, r.length]
  rw [hn] at wk
  refine k _ [s.heap.objs.size + 1, s.heap.objs.size] [a] _ _ _ _ { s with heap := h' } ⟨wk, fun _ q => q, fun i h ⟨⟨_, q1⟩, ⟨o, q2, _⟩, _⟩ b hb => ?_⟩ (by simp) ⟨⟨_, he⟩, hi, hL.at fun o x => hk a o x⟩ (by simpa using ⟨_, f⟩) ?_ ⟨hk, rfl, rfl⟩ ?_ ?_
  · simp only [List.mem_cons, List.not_mem_nil, or_false] at hb
    rcases hb with rfl | rfl
    · exact ⟨_, q1⟩
    · exact ⟨_, q2⟩
  · rintro j vals ⟨t, x, hx, rfl⟩
    have hx' : vs[j]? = some x := by simpa using hx
    obtain ⟨y, hy, ry⟩ := r.getV j x hx'
    exact ⟨_, y, by rw [enumL_get, hy]; rfl, RepL.cons (show Rep g os ad s.heap (.int ((0 + j : Nat) : Int)) (.int (j : Int) t) from ⟨t, by simp⟩) (RepL.one ry)⟩
  · intro b hb
    simp only [List.mem_cons, List.not_mem_nil, or_false] at hb
    rcases hb with rfl | rfl <;> exact nof _ (by first | exact Nat.le_refl _ | exact Nat.le_add_right _ _)
  · intro b hb
    simp only [List.mem_cons, List.not_mem_nil, or_false] at hb
    obtain ⟨o, q2, _⟩ := hi
    rcases hb with rfl | rfl
    · exact ⟨_, he⟩
    · exact ⟨_, q2⟩

theorem src_zip {a b : Addr} {vs us : List Value} {n m : Nat} {l r : List SV} {Q : Value → Shared → Prop} (hh : A.handled = none) (I : InvH g os ad objs s) (f : Fz g os ad s.heap a (lstObj vs n)) (fr : RepL g os ad s.heap l vs) (f' : Fz g os ad s.heap b (lstObj us m)) (fr' : RepL g os ad s.heap r us)
    (k : ∀ (it : Addr) (new src W : List Addr) Pt Sti Mid (s2 : Shared), Src g A it new src W (List.zipWith (fun x y => .tup [x, y]) l r) Pt Sti Mid → it ∈ new → Sti 0 s2.heap → (∀ b ∈ src, ∃ o, Fz g os ad s.heap b o) →
      (∀ k vals, Pt k vals → ∃ x y, (List.zipWith (fun x y => SV.tup [x, y]) l r)[k]? = some (.tup [x, y]) ∧ RepL g os ad s.heap [x, y] vals.toList) → Mono s s2 → (∀ a ∈ new, s.heap.get? a = none) → (∀ a ∈ new, ∃ o, s2.heap.get? a = some o) → Q (.ref it) s2) :
    wpAny (model g.prog g.w) A (call (.type "zip") [.ref a, .ref b]) Q E s := by
  have hL := IsL_list f.1
  have hL' := IsL_list f'.1
  have hlt : (a : Nat) < s.heap.objs.size := Heap.lt_size f.1
  have hlt' : (b : Nat) < s.heap.objs.size := Heap.lt_size f'.1
  have nof : ∀ b, s.heap.objs.size ≤ b → s.heap.get? b = none := fun b hb => by
    cases q : s.heap.get? b with
    | none => rfl
    | some o => exact absurd (Heap.lt_size q) (Nat.not_lt.mpr hb)
  refine call_zip_2 hL hL' fun h' z1 z2 z3 z4 z5 hsz hk => ?_
  have D : ZipApart (s.heap.objs.size + 4) (s.heap.objs.size + 2) (s.heap.objs.size + 3) s.heap.objs.size (s.heap.objs.size + 1) a b := by
    constructor <;> first | exact Nat.ne_of_gt (by omega) | exact Nat.ne_of_lt (by omega) | exact Nat.ne_of_lt hlt | exact Nat.ne_of_lt (Nat.lt_of_lt_of_le hlt (Nat.le_add_right _ _)) | exact Nat.ne_of_lt hlt' | exact Nat.ne_of_lt (Nat.lt_of_lt_of_le hlt' (Nat.le_add_right _ _))
  have wk := WalksT.zip2 (prog := g.prog) (w := g.w) (A := A) hh (s.heap.objs.size + 4) (s.heap.objs.size + 2) (s.heap.objs.size + 3) s.heap.objs.size (s.heap.objs.size + 1) a b D vs.toArray us.toArray
  have hn : min vs.toArray.size us.toArray.size = (List.zipWith (fun x y => SV.tup [x, y]) l r).length := by
    rw [List.length_zipWith, List.size_toArray, List.size_toArray, fr.length, fr'.length]
  rw [hn] at wk
  refine k _ [s.heap.objs.size + 4, s.heap.objs.size + 2, s.heap.objs.size + 3, s.heap.objs.size, s.heap.objs.size + 1] [a, b] _ _ _ _ { s with heap := h' }
    ⟨wk, fun _ q => by simp only [List.mem_cons, List.not_mem_nil, or_false] at q ⊢; rcases q with q | q | q | q <;> simp [q], fun i h ⟨q1, q2, ⟨_, _, q3⟩, ⟨o4, q4, _⟩, ⟨o5, q5, _⟩, _⟩ b hb => ?_⟩ (by simp) ⟨z1, z2, ⟨_, _, z3⟩, z4, z5, hL.at fun o x => hk a o x, hL'.at fun o x => hk b o x⟩ ?_ ?_ ⟨hk, rfl, rfl⟩ ?_ ?_
  · simp only [List.mem_cons, List.not_mem_nil, or_false] at hb
    rcases hb with rfl | rfl | rfl | rfl
    · exact ⟨_, q1⟩
    · exact ⟨_, q3⟩
    · exact ⟨_, q4⟩
    · exact ⟨_, q5⟩
  · intro x hx
    simp only [List.mem_cons, List.not_mem_nil, or_false] at hx
    rcases hx with rfl | rfl
    · exact ⟨_, f⟩
    · exact ⟨_, f'⟩
  · rintro j vals ⟨x, y, hx, hy, rfl⟩
    have hx' : vs[j]? = some x := by simpa using hx
    have hy' : us[j]? = some y := by simpa using hy
    obtain ⟨x', hx2, rx⟩ := fr.getV j x hx'
    obtain ⟨y', hy2, ry⟩ := fr'.getV j y hy'
    exact ⟨x', y', by rw [List.getElem?_zipWith, hx2, hy2], RepL.cons rx (RepL.one ry)⟩
  · intro b hb
    simp only [List.mem_cons, List.not_mem_nil, or_false] at hb
    rcases hb with rfl | rfl | rfl | rfl | rfl <;> exact nof _ (by first | exact Nat.le_refl _ | exact Nat.le_add_right _ _)
  · intro b hb
    simp only [List.mem_cons, List.not_mem_nil, or_false] at hb
    obtain ⟨o, q2, _⟩ := z4
    obtain ⟨o', q2', _⟩ := z5
    rcases hb with rfl | rfl | rfl | rfl | rfl
    · exact ⟨_, z1⟩
    · exact ⟨_, z2⟩
    · exact ⟨_, z3⟩
    · exact ⟨_, q2⟩
    · exact ⟨_, q2'⟩

theorem tr_zcall {Wf : St → (SV → St → Prop) → Prop} {Wr : St → (List SV → St → Prop) → Prop} {id : Str} {p pos : Pos} {es : List Expr} (hn : noStar es = true)
    (hf : TrE g N c ℓ Wf env nm (eval (.Name id p) env)) (hr : TrL es.length g N c ℓ Wr env nm (spliced (es.map fun e => (false, eval e env)))) :
    TrZ g N c ℓ (fun σ K => Wf σ fun vf σ1 => Wr σ1 fun vs σ2 => zW vf vs fun l => K l σ2) env nm (eval (.Call (.Name id p) es [] pos) env) := by
  intro os own wr A ad σ s K Q E hA I w post
  show wpAny _ _ (eval (.Name id p) env >>= fun f => callWith pos f [] (backTo pos (starEach es env)) (backToKw pos (keywordEach [] env))) _ _ _
  rw [star_of pos env hn]
  refine wpAny_bind (hf os own wr A ad σ s _ _ E hA I w fun va a ad1 σ1 s1 w1 ra I1 S1 => ?_)
  refine callWith_any (P := fun h => KeepOk (model g.prog g.w) h va) (fun h k => k) ?_
  refine hr os own wr A ad1 σ1 s1 _ _ E hA I1 w1 fun vs l ad2 σ2 s2 w2 r2 I2 S2 hz => ?_
  have S12 := I.stp I1 S1 S2
  unfold zW at w2
  split at w2
  · have : va = .type "enumerate" := ra
    subst this
    refine ⟨keep_type _ _, ?_⟩
    obtain ⟨v, _, rfl, ⟨b, us, n, rfl, f, rl⟩, rfl⟩ := r2
    exact src_enum hA.1 I2.H f rl fun it new src W Pt Sti Mid s3 a1 a2 a3 a4 a5 a6 a7 a8 => post _ it new src W Pt Sti Mid ad2 σ2 s2 s3 w2 a1 a2 a3 a4 a5 I2 S12 a6 a7 a8
  · have : va = .type "zip" := ra
    subst this
    refine ⟨keep_type _ _, ?_⟩
    obtain ⟨v, _, rfl, ⟨b, us, n, rfl, f, rl⟩, ⟨v', _, rfl, ⟨b', us', n', rfl, f', rl'⟩, rfl⟩⟩ := r2
    exact src_zip hA.1 I2.H f rl f' rl' fun it new src W Pt Sti Mid s3 a1 a2 a3 a4 a5 a6 a7 a8 => post _ it new src W Pt Sti Mid ad2 σ2 s2 s3 w2 a1 a2 a3 a4 a5 I2 S12 a6 a7 a8
  · exact w2.elim
end
end Vc
end
section
open PySem PySem.W PyProof.Rows PySem.Calls
set_option maxRecDepth 10000
set_option autoImplicit false
set_option linter.unusedVariables false
set_option linter.unusedSectionVars false
set_option maxHeartbeats 1000000
namespace Vc

section
variable (N : Nms)
mutual
def ckS (kd : Kd) (nm : List (Str × Nat)) (wr : Str → Bool) : S → Stmt → Bool
  | .set i e, .Assign [.Name x _] ve _ => nm.lookup x == some i && wr x && ckE N kd nm e ve
  | .setT is e, .Assign [.Tuple ts _ _] ve _ => ckN nm wr is ts && decide is.Nodup && tupOk ve && !isComp ve && ckE N kd nm e ve
  | .aug i op e, .AugAssign (.Name x _) op' ve _ => nm.lookup x == some i && wr x && x != ("__classdict__" : Str) && op == op' && ckE N kd nm e ve
  | .setI o i e, .Assign [.Subscript oe ie _] ve _ => !isComp ve && ckE N kd nm o oe && ckE N kd nm i ie && ckE N kd nm e ve
  | .augI o i op e, .AugAssign (.Subscript oe ie _) op' ve _ => op == op' && ckE N kd nm o oe && ckE N kd nm i ie && ckE N kd nm e ve
  | .setA o f e, .Assign [.Attribute oe name _] ve _ => decide (f < 9) && name == N.fname f && !isComp ve && ckE N kd nm o oe && ckE N kd nm e ve
  | .ex e, .Expr ve _ => !isComp ve && ckE N kd nm e ve
  | .ite t a b, .If te ab bb _ => ckE N kd nm t te && ckSs kd nm wr a ab && ckSs kd nm wr b bb
  | .wh t a, .While te ab [] _ => ckE N kd nm t te && ckSs kd nm wr a ab
  | .fr tg it a, .For te ie ab [] _ => ckTg nm wr tg te && ckE N kd nm it ie && ckSs kd nm wr a ab
  | .ret e, .Return (some v) _ => ckE N kd nm e v
  | .ret .nop, .Return none _ => true
  | .setZ i _ nm' elt j1 j2 f args, .Assign [.Name x _] (.ListComp ee [⟨.Tuple [.Name y1 _, .Name y2 _] _ _, .Call (.Name id p) es [] _, [], a⟩] sc _) _ =>
    nm.lookup x == some i && wr x && a == 0 && compOk kd nm nm' sc && (nm'.all fun p => p.1 == y1 || p.1 == y2 || sc.names.lookup p.1 == some .free) && nm'.lookup y1 == some j1 && nm'.lookup y2 == some j2 && j1 != j2 &&
      sc.names.lookup y1 == some .local && sc.names.lookup y2 == some .local && noStar es && ckE N kd nm f (.Name id p) && ckEs N kd nm args es && ckE N (fun y => sc.names.lookup y) nm' elt ee
  | .bad, _ => true
  | .brk, .Break _ => true
  | .cont, .Continue _ => true
  | _, _ => false
def ckSs (kd : Kd) (nm : List (Str × Nat)) (wr : Str → Bool) : Ss → List Stmt → Bool
  | .nil, [] => true
  | .cons x r, e :: es => ckS kd nm wr x e && ckSs kd nm wr r es
  | _, _ => false
end
end

section
variable {g : G} {N : Nms} {c : C} {ℓ : Nat} (G0 : GOk g N c) (Sp : SpOk g N c ℓ) (hN : ∀ j, N.fname j = g.fname j) (hinj : ∀ f j, f < 9 → g.fname j = g.fname f → j = f)

theorem set_comp {kd : Kd} {nm : List (Str × Nat)} {env : Env} {wr : Str → Bool} {x : Str} {i : Nat} {p pos : Pos} {mu : Bool} {nm' : List (Str × Nat)} {elt : X} {tg : List Nat} {iter cond : X} {ve : Expr} (hk : KdOk env kd) (hw : wr x = true) (hx : nm.lookup x = some i) (h : ckE N kd nm (.comp mu nm' elt tg iter cond) ve = true)
    (G0 : GOk g N c) (Sp : SpOk g N c ℓ) (hN : ∀ j, N.fname j = g.fname j) (hinj : ∀ f j, f < 9 → g.fname j = g.fname f → j = f) :
    TrS g N c ℓ (fun σ K => wpE c (.comp mu nm' elt tg iter cond) σ fun v σ1 => K .next ⟨σ1.vars.set i v, σ1.objs⟩) env nm wr (exec (.Assign [.Name x p] ve pos) env) := by
  cases ve with
  | ListComp ee gens sc cpos =>
    rcases tg with _ | ⟨j, _ | ⟨_, _⟩⟩
    · simp [ckE] at h
    · rcases gens with _ | ⟨⟨t, ie, ifs, a⟩, _ | ⟨_, _⟩⟩
      · simp [ckE] at h
      · cases t with
        | Name y px =>
          obtain ⟨rfl, h1, h0, h2, h3, h4, h5, h6⟩ := ckE_comp h
          have Sc := compS_of hk h1 h0 h2 h3
          have h4' := (ckE_shape (env := env) h4).1
          have hit := okE G0 Sp hN hinj iter _ kd nm env hk h4
          have hel := fun cl C => okE G0 Sp hN hinj elt _ _ nm' (compEnvC sc cl C env) kd_comp h5
          rcases h6 with ⟨rfl, rfl⟩ | ⟨te, rfl, h6⟩
          · refine tr_setC (mu := mu) (Wt := fun σ K => K true σ) hw hx Sc h4' hit hel fun cl C => ?_
            intro os own wr A ad σ s K Q E hA I w post
            rw [List.forIn_nil]
            exact wpAny_pure (post _ _ _ _ w I Step.refl)
          · have one : ∀ cl C, TrT g N c ℓ (wpT c cond (wpE c cond)) (compEnvC sc cl C env) nm' (forIn [te] true fun c r => if r = true then do let ok ← isTrue c (compEnvC sc cl C env) (eval c (compEnvC sc cl C env)); pure (ForInStep.yield ok) else pure (ForInStep.yield r)) := by
              intro cl C os own wr A ad σ s K Q E hA I w post
              rw [List.forIn_cons, if_pos rfl]
              refine wpAny_bind (wpAny_bind (okT G0 Sp hN hinj cond te _ nm' _ kd_comp h6 os own wr A ad σ s K _ E hA I w fun b ad' σ' s' k I' S' => wpAny_pure ?_))
              show wpAny _ _ (forIn [] b _) _ _ _
              rw [List.forIn_nil]
              exact wpAny_pure (post _ _ _ _ k I' S')
            have key := tr_setC (px := px) (cpos := cpos) (pos := pos) (p := p) (mu := mu) hw hx Sc h4' hit hel one
            have hne : cond ≠ .nop := by
              rintro rfl
              clear key one hit hel
              revert h6
              cases te <;> simp [ckE]
            rw [← condF_ne (W := wpT c cond (wpE c cond)) hne] at key
            exact key
        | _ => simp [ckE] at h
      · cases t <;> simp [ckE] at h
    · simp [ckE] at h
  | _ =>
    rcases tg with _ | ⟨i, _ | ⟨_, _⟩⟩ <;> simp [ckE] at h

theorem compS2_of {kd : Kd} {env : Env} {nm nm' : List (Str × Nat)} {sc : Scope} {y1 y2 : Str} {j1 j2 : Nat} (hk : KdOk env kd) (h1 : compOk kd nm nm' sc = true) (h0 : (nm'.all fun p => p.1 == y1 || p.1 == y2 || sc.names.lookup p.1 == some .free) = true)
    (h2 : nm'.lookup y1 = some j1) (h2' : nm'.lookup y2 = some j2) (hj : j1 ≠ j2) (h3 : sc.names.lookup y1 = some .local) (h3' : sc.names.lookup y2 = some .local) : CompS2 env nm nm' sc y1 y2 j1 j2 := by
  unfold compOk at h1
  simp only [Bool.and_eq_true, beq_iff_eq, decide_eq_true_eq, List.all_eq_true] at h1 h0
  obtain ⟨⟨⟨hkind, hnames⟩, hnm⟩, hnd⟩ := h1
  have far : ∀ {y : Str} {j : Nat} {z : Str}, nm.lookup y = some j → nm'.lookup z = some j → sc.names.lookup z = some .local → False := by
    intro y j z b h2 h3
    have hm2 := mem_of_lookup h2
    have b2 := (hnm _ hm2).2
    simp only [Bool.or_eq_true, beq_iff_eq, Bool.and_eq_true, List.all_eq_true, bne_iff_ne, ne_eq] at b2
    rcases b2 with ⟨_, b2⟩ | ⟨b2, _⟩
    · exact b2 _ (mem_of_lookup b) rfl
    · rw [h3] at b2; cases b2
  have hnms : ∀ y j, nm'.lookup y = some j → (y = y1 ∧ j = j1) ∨ (y = y2 ∧ j = j2) ∨ (sc.names.lookup y = some .free ∧ nm.lookup y = some j ∧ j ≠ j1 ∧ j ≠ j2) := by
    intro y j hy
    have hm := mem_of_lookup hy
    have a := h0 _ hm
    have b := (hnm _ hm).2
    simp only [Bool.or_eq_true, beq_iff_eq, Bool.and_eq_true] at a b
    by_cases hyx : y = y1
    · subst hyx
      rw [h2] at hy; cases hy
      exact .inl ⟨rfl, rfl⟩
    · by_cases hyx2 : y = y2
      · subst hyx2
        rw [h2'] at hy; cases hy
        exact .inr (.inl ⟨rfl, rfl⟩)
      · rcases a with (a | a) | a
        · exact (hyx a).elim
        · exact (hyx2 a).elim
        · rcases b with ⟨b, _⟩ | ⟨_, b⟩
          · rw [a] at b; cases b
          · exact .inr (.inr ⟨a, b, fun e => far b (e ▸ h2) h3, fun e => far b (e ▸ h2') h3'⟩)
  refine ⟨hkind, fun p hp e => ?_, fun p hp e => ?_, fun p hp e => ?_, hnms, ?_, hj, h2, h2', h3, h3'⟩
  · have := (hnames p hp).1.1
    rw [e] at this; simp at this
  · have := (hnames p hp).1.2
    rw [e] at this; simpa using this
  · have := (hnames p hp).2
    rw [e] at this
    simp only [bne_self_eq_false, Bool.false_or, Bool.and_eq_true, Bool.or_eq_true, beq_iff_eq] at this
    obtain ⟨a, b⟩ := this
    exact ⟨Option.isSome_iff_exists.mp a, (hk p.1).2.2 b⟩
  · intro y z j hy hz
    have aux : ∀ (l : List (Str × Nat)) y z j, (l.map (·.2)).Nodup → l.lookup y = some j → l.lookup z = some j → y = z := by
      intro l
      induction l with
      | nil => intro y z j _ e; simp at e
      | cons p r ih =>
        intro y z j hn e1 e2
        simp only [List.map_cons, List.nodup_cons] at hn
        rw [List.lookup_cons] at e1 e2
        cases h1 : y == p.1 with
        | true =>
          rw [h1] at e1; cases e1
          cases h2 : z == p.1 with
          | true => rw [eq_of_beq h1, eq_of_beq h2]
          | false =>
            rw [h2] at e2
            exact (hn.1 (List.mem_map.mpr ⟨_, mem_of_lookup e2, rfl⟩)).elim
        | false =>
          rw [h1] at e1
          cases h2 : z == p.1 with
          | true =>
            rw [h2] at e2; cases e2
            exact (hn.1 (List.mem_map.mpr ⟨_, mem_of_lookup e1, rfl⟩)).elim
          | false => rw [h2] at e2; exact ih y z j hn.2 e1 e2
    exact aux nm' y z j hnd hy hz

theorem ckE_notComp {kd : Kd} {nm : List (Str × Nat)} {x : X} {e : Expr} (h : ckE N kd nm x e = true) (hx : ∀ mu nm' elt tg iter cond, x ≠ .comp mu nm' elt tg iter cond) : isComp e = false := by
  cases e <;> first
    | rfl
    | (cases x <;> first | (exact (hx _ _ _ _ _ _ rfl).elim) | simp [ckE] at h)
theorem ckE_augStore {kd : Kd} {nm : List (Str × Nat)} {x : X} {e : Expr} (h : ckE N kd nm x e = true) : ∀ ov iv new, augStore e ov iv new = (do holding [new, ov, iv] (setItem ov iv new); release [new, ov, iv] []; pure .next) := by
  cases e <;> first
    | exact fun _ _ _ => rfl
    | (cases x <;> simp [ckE] at h)

include G0 Sp hN hinj
theorem ok_set {kd : Kd} {nm : List (Str × Nat)} {env : Env} {wr : Str → Bool} {x : Str} {i : Nat} {p pos : Pos} {e : X} {ve : Expr} (hk : KdOk env kd) (hw : wr x = true) (hx : nm.lookup x = some i) (h : ckE N kd nm e ve = true) :
    TrS g N c ℓ (wpS c (.set i e)) env nm wr (exec (.Assign [.Name x p] ve pos) env) := by
  by_cases hc : ∃ mu nm' elt tg iter cond, e = .comp mu nm' elt tg iter cond
  · obtain ⟨mu, nm', elt, tg, iter, cond, rfl⟩ := hc
    exact set_comp hk hw hx h G0 Sp hN hinj
  · exact tr_set hw hx (ckE_notComp h fun mu nm' elt tg iter cond e => hc ⟨mu, nm', elt, tg, iter, cond, e⟩) (okE G0 Sp hN hinj e _ kd nm env hk h)

theorem ok_setZ {i : Nat} {mu : Bool} {nm' : List (Str × Nat)} {elt : X} {j1 j2 : Nat} {f : X} {args : Xs} {st : Stmt} {kd : Kd} {nm : List (Str × Nat)} {wr : Str → Bool} {env : Env} (hk : KdOk env kd) (h : ckS N kd nm wr (.setZ i mu nm' elt j1 j2 f args) st = true) :
    TrS g N c ℓ (wpS c (.setZ i mu nm' elt j1 j2 f args)) env nm wr (exec st env) := by
  cases st <;> try (exfalso; revert h; exact Bool.noConfusion)
  rename_i ts ve pos
  rcases ts with _ | ⟨t, _ | ⟨t2, r⟩⟩
  · (exfalso; revert h; exact Bool.noConfusion)
  · cases t <;> try (exfalso; revert h; exact Bool.noConfusion)
    rename_i x p
    cases ve <;> try (exfalso; revert h; exact Bool.noConfusion)
    rename_i ee gens sc cpos
    rcases gens with _ | ⟨⟨t, ie, ifs, a⟩, _ | ⟨_, _⟩⟩
    · (exfalso; revert h; exact Bool.noConfusion)
    · cases t <;> try (exfalso; revert h; exact Bool.noConfusion)
      rename_i elts xk pt
      rcases elts with _ | ⟨e1, _ | ⟨e2, _ | ⟨e3, er⟩⟩⟩
      · (exfalso; revert h; exact Bool.noConfusion)
      · cases e1 <;> (exfalso; revert h; exact Bool.noConfusion)
      · cases e1 <;> try (exfalso; revert h; exact Bool.noConfusion)
        cases e2 <;> try (exfalso; revert h; exact Bool.noConfusion)
        rename_i y1 px1 y2 px2
        cases ie <;> try (exfalso; revert h; exact Bool.noConfusion)
        rename_i fe es kws cp
        cases fe <;> try (exfalso; revert h; exact Bool.noConfusion)
        rename_i id ip
        cases kws <;> try (exfalso; revert h; exact Bool.noConfusion)
        cases ifs <;> try (exfalso; revert h; exact Bool.noConfusion)
        simp only [ckS, Bool.and_eq_true, beq_iff_eq, bne_iff_ne, ne_eq] at h
        obtain ⟨⟨⟨⟨⟨⟨⟨⟨⟨⟨⟨⟨⟨a1, a2⟩, a3⟩, a4⟩, a5⟩, a6⟩, a7⟩, a8⟩, a9⟩, a10⟩, a11⟩, a12⟩, a13⟩, a14⟩ := h
        subst a3
        exact tr_setZ (mu := mu) a2 a1 (compS2_of hk a4 a5 a6 a7 a8 a9 a10) (fun _ => rfl) (tr_zcall a11 (okE G0 Sp hN hinj f _ kd nm env hk a12) (okEs G0 Sp hN hinj args _ kd nm env hk a13))
          fun cl C => okE G0 Sp hN hinj elt _ _ nm' (compEnvC sc cl C env) kd_comp a14
      · cases e1 <;> try (exfalso; revert h; exact Bool.noConfusion)
        cases e2 <;> (exfalso; revert h; exact Bool.noConfusion)
    · cases t <;> try (exfalso; revert h; exact Bool.noConfusion)
      rename_i elts xk pt
      rcases elts with _ | ⟨e1, _ | ⟨e2, _ | ⟨e3, er⟩⟩⟩
      · (exfalso; revert h; exact Bool.noConfusion)
      · cases e1 <;> (exfalso; revert h; exact Bool.noConfusion)
      · cases e1 <;> try (exfalso; revert h; exact Bool.noConfusion)
        cases e2 <;> try (exfalso; revert h; exact Bool.noConfusion)
        cases ie <;> try (exfalso; revert h; exact Bool.noConfusion)
        rename_i fe es kws cp
        cases fe <;> try (exfalso; revert h; exact Bool.noConfusion)
        cases kws <;> try (exfalso; revert h; exact Bool.noConfusion)
        cases ifs <;> (exfalso; revert h; exact Bool.noConfusion)
      · cases e1 <;> try (exfalso; revert h; exact Bool.noConfusion)
        cases e2 <;> (exfalso; revert h; exact Bool.noConfusion)
  · exfalso
    revert h
    cases t <;> exact Bool.noConfusion

mutual
theorem okS : ∀ (x : S) (st : Stmt) (kd : Kd) (nm : List (Str × Nat)) (wr : Str → Bool) (env : Env), KdOk env kd → ckS N kd nm wr x st = true → TrS g N c ℓ (wpS c x) env nm wr (exec st env)
  | .set i e, st, kd, nm, wr, env, hk, h => by
    cases st with
    | Assign ts ve pos =>
      rcases ts with _ | ⟨t, _ | ⟨t2, r⟩⟩
      · simp [ckS] at h
      · cases t <;> first | (simp [ckS] at h; done) | (simp only [ckS, Bool.and_eq_true, beq_iff_eq] at h; exact ok_set G0 Sp hN hinj hk h.1.2 h.1.1 h.2)
      · exfalso
        revert h
        cases t <;> exact Bool.noConfusion
    | _ => simp [ckS] at h
  | .setT is e, st, kd, nm, wr, env, hk, h => by
    cases st with
    | Assign ts ve pos =>
      rcases ts with _ | ⟨t, _ | ⟨t2, r⟩⟩
      · simp [ckS] at h
      rotate_left
      · exfalso
        revert h
        cases t <;> exact Bool.noConfusion
      · cases t <;> first
          | (simp [ckS] at h; done)
          | (simp only [ckS, Bool.and_eq_true, Bool.not_eq_true', decide_eq_true_eq] at h
             exact tr_setT h.1.1.1.1 h.1.1.1.2 h.1.1.2 h.1.2 (okE G0 Sp hN hinj e _ kd nm env hk h.2))
    | _ => simp [ckS] at h
  | .aug i op e, st, kd, nm, wr, env, hk, h => by
    cases st with
    | AugAssign t op' ve pos =>
      cases t <;> first
        | (simp [ckS] at h; done)
        | (simp only [ckS, Bool.and_eq_true, beq_iff_eq, bne_iff_ne, ne_eq] at h
           obtain ⟨⟨⟨⟨h1, h2⟩, h3⟩, rfl⟩, h5⟩ := h
           exact tr_aug h2 h1 (by simpa using h3) (okE G0 Sp hN hinj e _ kd nm env hk h5))
    | _ => simp [ckS] at h
  | .setI o i e, st, kd, nm, wr, env, hk, h => by
    cases st with
    | Assign ts ve pos =>
      rcases ts with _ | ⟨t, _ | ⟨t2, r⟩⟩
      · simp [ckS] at h
      rotate_left
      · exfalso
        revert h
        cases t <;> exact Bool.noConfusion
      · cases t <;> first
          | (simp [ckS] at h; done)
          | (simp only [ckS, Bool.and_eq_true, Bool.not_eq_true'] at h
             exact tr_setI h.1.1.1 (okE G0 Sp hN hinj e _ kd nm env hk h.2) (okE G0 Sp hN hinj o _ kd nm env hk h.1.1.2) (okE G0 Sp hN hinj i _ kd nm env hk h.1.2))
    | _ => simp [ckS] at h
  | .augI o i op e, st, kd, nm, wr, env, hk, h => by
    cases st with
    | AugAssign t op' ve pos =>
      cases t <;> first
        | (simp [ckS] at h; done)
        | (simp only [ckS, Bool.and_eq_true, beq_iff_eq] at h
           obtain ⟨⟨⟨rfl, h2⟩, h3⟩, h5⟩ := h
           exact tr_augI (ckE_augStore h3) (okE G0 Sp hN hinj e _ kd nm env hk h5) (okE G0 Sp hN hinj o _ kd nm env hk h2) (okE G0 Sp hN hinj i _ kd nm env hk h3))
    | _ => simp [ckS] at h
  | .setA o f e, st, kd, nm, wr, env, hk, h => by
    cases st with
    | Assign ts ve pos =>
      rcases ts with _ | ⟨t, _ | ⟨t2, r⟩⟩
      · simp [ckS] at h
      rotate_left
      · exfalso
        revert h
        cases t <;> exact Bool.noConfusion
      · cases t <;> first
          | (simp [ckS] at h; done)
          | (simp only [ckS, Bool.and_eq_true, Bool.not_eq_true', beq_iff_eq, decide_eq_true_eq] at h
             obtain ⟨⟨⟨⟨h0, rfl⟩, h2⟩, h3⟩, h5⟩ := h
             exact tr_setA Sp hN h0 (fun j => hinj f j h0) h2 (okE G0 Sp hN hinj e _ kd nm env hk h5) (okE G0 Sp hN hinj o _ kd nm env hk h3))
    | _ => simp [ckS] at h
  | .ex e, st, kd, nm, wr, env, hk, h => by
    cases st <;> first
      | (simp [ckS] at h; done)
      | (simp only [ckS, Bool.and_eq_true, Bool.not_eq_true'] at h
         exact tr_ex h.1 (okE G0 Sp hN hinj e _ kd nm env hk h.2))
  | .ite t a b, st, kd, nm, wr, env, hk, h => by
    cases st <;> first
      | (simp [ckS] at h; done)
      | (simp only [ckS, Bool.and_eq_true] at h
         exact tr_ite (okT G0 Sp hN hinj t _ kd nm env hk h.1.1) (okSs a _ kd nm wr env hk h.1.2) (okSs b _ kd nm wr env hk h.2))
  | .wh t a, st, kd, nm, wr, env, hk, h => by
    cases st with
    | While te ab ob pos =>
      cases ob with
      | nil =>
        simp only [ckS, Bool.and_eq_true] at h
        exact tr_wh (okT G0 Sp hN hinj t _ kd nm env hk h.1) (okSs a _ kd nm wr env hk h.2)
      | cons => simp [ckS] at h
    | _ => simp [ckS] at h
  | .fr tg it a, st, kd, nm, wr, env, hk, h => by
    cases st with
    | For te ie ab ob pos =>
      cases ob with
      | nil =>
        simp only [ckS, Bool.and_eq_true] at h
        exact tr_fr h.1.1 (ckE_shape (env := env) h.1.2).1 (okE G0 Sp hN hinj it _ kd nm env hk h.1.2) (okSs a _ kd nm wr env hk h.2)
      | cons => simp [ckS] at h
    | _ => simp [ckS] at h
  | .ret e, st, kd, nm, wr, env, hk, h => by
    cases st with
    | Return v pos =>
      cases v with
      | some v =>
        have h' : ckE N kd nm e v = true := by cases e <;> simpa only [ckS] using h
        exact tr_ret (okE G0 Sp hN hinj e _ kd nm env hk h')
      | none =>
        cases e <;> first
          | (simp [ckS] at h; done)
          | exact tr_ret0
    | _ => simp [ckS] at h
  | .setZ i mu nm' elt j1 j2 f args, st, kd, nm, wr, env, hk, h => ok_setZ G0 Sp hN hinj hk h
  | .bad, st, kd, nm, wr, env, hk, h => fun os own A ad σ s K Q E hA I w => w.elim
  | .brk, st, kd, nm, wr, env, hk, h => by
    cases st <;> first
      | (simp [ckS] at h; done)
      | exact tr_brk
  | .cont, st, kd, nm, wr, env, hk, h => by
    cases st <;> first
      | (simp [ckS] at h; done)
      | exact tr_cont
theorem okSs : ∀ (x : Ss) (sts : List Stmt) (kd : Kd) (nm : List (Str × Nat)) (wr : Str → Bool) (env : Env), KdOk env kd → ckSs N kd nm wr x sts = true → TrS g N c ℓ (wpSs c x) env nm wr (execs sts env)
  | .nil, sts, kd, nm, wr, env, hk, h => by
    cases sts with
    | nil => exact tr_snil
    | cons => simp [ckSs] at h
  | .cons x r, sts, kd, nm, wr, env, hk, h => by
    cases sts with
    | nil => simp [ckSs] at h
    | cons st rest =>
      simp only [ckSs, Bool.and_eq_true] at h
      exact tr_scons (okS x st kd nm wr env hk h.1) (okSs r rest kd nm wr env hk h.2)
end
end
end Vc
end
section
open PySem PySem.W PyProof.Rows PySem.Calls
set_option maxRecDepth 10000
set_option autoImplicit false
set_option linter.unusedVariables false
set_option linter.unusedSectionVars false
namespace Vc

/-- names numbered, the parameters ahead -/
def entCk (sc : Scope) (nm : List (Str × Nat)) (ps : List Str) : Bool :=
  sc.kind == .function && decide ps.Nodup && decide ((nm.map (·.2)).Nodup) && decide ((nm.map (·.1)).Nodup) &&
  (ps.zipIdx.all fun p => nm.lookup p.1 == some p.2) &&
  (ps.all fun p => sc.names.lookup p == some .local || sc.names.lookup p == some .cell) &&
  (nm.all fun p => sc.names.lookup p.1 == some .local || sc.names.lookup p.1 == some .cell) &&
  (sc.names.all fun p => sc.names.lookup p.1 == some p.2)
def wrOf (sc : Scope) (nm : List (Str × Nat)) : Str → Bool := fun x => (nm.lookup x).isSome && (sc.names.lookup x == some .local || sc.names.lookup x == some .cell)
/-- the variables at first -/
def vars0 (args : List SV) (n : Nat) : List SV := args ++ List.replicate (n - args.length) .unb

theorem cells_isSome : ∀ {names : List (Str × NameKind)} {x : Str} {n : Nat} {acc : List (Str × Addr)}, (names.lookup x = some .cell → names.all (fun p => names.lookup p.1 == some p.2) = true → ((cellsFrom n names acc).lookup x).isSome = true) := by
  have keep : ∀ (names : List (Str × NameKind)) (x : Str) (n : Nat) (acc : List (Str × Addr)), (acc.lookup x).isSome = true → ((cellsFrom n names acc).lookup x).isSome = true := by
    intro names
    induction names with
    | nil => intro x n acc h; exact h
    | cons p r ih =>
      intro x n acc h
      obtain ⟨y, k⟩ := p
      unfold cellsFrom
      split
      · refine ih x _ _ ?_
        rw [List.lookup_cons]
        split <;> simp_all
      · exact ih x _ _ h
  have mem : ∀ (names : List (Str × NameKind)) (x : Str) (n : Nat) (acc : List (Str × Addr)), (x, NameKind.cell) ∈ names → ((cellsFrom n names acc).lookup x).isSome = true := by
    intro names
    induction names with
    | nil => intro x n acc h; simp at h
    | cons p r ih =>
      intro x n acc h
      obtain ⟨y, k⟩ := p
      rcases List.mem_cons.mp h with h | h
      · cases h
        unfold cellsFrom
        rw [if_pos (by decide)]
        refine keep _ _ _ _ ?_
        simp [List.lookup_cons]
      · unfold cellsFrom
        split
        · exact ih _ _ _ h
        · exact ih _ _ _ h
  intro names x n acc h _
  exact mem names x n acc (mem_of_lookup h)

theorem cells_mem : ∀ {names : List (Str × NameKind)} {n : Nat} {acc : List (Str × Addr)} {x : Str} {c : Addr}, (x, c) ∈ cellsFrom n names acc → (x, c) ∈ acc ∨ (x, NameKind.cell) ∈ names
  | [], _, _, _, _, h => .inl h
  | (y, k) :: r, n, acc, x, c, h => by
    unfold cellsFrom at h
    split at h
    · rename_i hk
      rcases cells_mem h with h | h
      · rcases List.mem_cons.mp h with h | h
        · cases h
          rw [eq_of_beq hk]
          exact .inr (by simp)
        · exact .inl h
      · exact .inr (by simp [h])
    · rcases cells_mem h with h | h
      · exact .inl h
      · exact .inr (by simp [h])

theorem bindL_get {ko : Str → Option NameKind} : ∀ {bs : List (Str × Value)} {m : Str → Option Value} {x : Str} {v : Value}, (bs.map (·.1)).Nodup → (x, v) ∈ bs → ko x = some .local → bindL ko bs m x = some v := by
  have out : ∀ (bs : List (Str × Value)) (m : Str → Option Value) (x : Str), x ∉ bs.map (·.1) → bindL ko bs m x = m x := by
    intro bs
    induction bs with
    | nil => intro m x _; rfl
    | cons p r ih =>
      intro m x h
      obtain ⟨y, v⟩ := p
      simp only [List.map_cons, List.mem_cons, not_or] at h
      unfold bindL
      rw [ih _ x h.2]
      split
      · simp [h.1]
      · rfl
  intro bs
  induction bs with
  | nil => intro m x v _ h; simp at h
  | cons p r ih =>
    intro m x v hn h hk
    obtain ⟨y, u⟩ := p
    simp only [List.map_cons, List.nodup_cons] at hn
    unfold bindL
    rcases List.mem_cons.mp h with h | h
    · cases h
      rw [out _ _ _ hn.1, if_pos hk]
      simp
    · exact ih hn.2 h hk
theorem bindC_get {ko : Str → Option NameKind} : ∀ {bs : List (Str × Value)} {m : Str → Option Value} {x : Str} {v : Value}, (bs.map (·.1)).Nodup → (x, v) ∈ bs → ko x ≠ some .local → bindC ko bs m x = some v := by
  have out : ∀ (bs : List (Str × Value)) (m : Str → Option Value) (x : Str), x ∉ bs.map (·.1) → bindC ko bs m x = m x := by
    intro bs
    induction bs with
    | nil => intro m x _; rfl
    | cons p r ih =>
      intro m x h
      obtain ⟨y, v⟩ := p
      simp only [List.map_cons, List.mem_cons, not_or] at h
      unfold bindC
      rw [ih _ x h.2]
      split
      · rfl
      · simp [h.1]
  intro bs
  induction bs with
  | nil => intro m x v _ h; simp at h
  | cons p r ih =>
    intro m x v hn h hk
    obtain ⟨y, u⟩ := p
    simp only [List.map_cons, List.nodup_cons] at hn
    unfold bindC
    rcases List.mem_cons.mp h with h | h
    · cases h
      rw [out _ _ _ hn.1, if_neg hk]
      simp
    · exact ih hn.2 h hk

section
variable {g : G} {N : Nms} {c : C} {ℓ : Nat} {env : Env} {nm : List (Str × Nat)} {os own : List Addr} {wr : Str → Bool} {ad ad' : AD} {σ : St} {s s' s2 : Shared} {A : Around} {E : Value → Shared → Prop} {objs : List AO}

theorem lookup_nodup {nm : List (Str × Nat)} (h : (nm.map (·.2)).Nodup) {x y : Str} {i : Nat} (h1 : nm.lookup x = some i) (h2 : nm.lookup y = some i) : x = y := by
  induction nm with
  | nil => simp at h1
  | cons p r ih =>
    obtain ⟨z, j⟩ := p
    simp only [List.map_cons, List.nodup_cons] at h
    rw [List.lookup_cons] at h1 h2
    cases e1 : x == z with
    | true =>
      rw [e1] at h1; cases h1
      cases e2 : y == z with
      | true => rw [eq_of_beq e1, eq_of_beq e2]
      | false =>
        rw [e2] at h2
        exact (h.1 (List.mem_map.mpr ⟨_, mem_of_lookup h2, rfl⟩)).elim
    | false =>
      rw [e1] at h1
      cases e2 : y == z with
      | true =>
        rw [e2] at h2; cases h2
        exact (h.1 (List.mem_map.mpr ⟨_, mem_of_lookup h1, rfl⟩)).elim
      | false => rw [e2] at h2; exact ih h.2 h1 h2

theorem zip_mem {ps : List Str} {vs : List Value} {x : Str} {i : Nat} {v : Value} (h1 : ps[i]? = some x) (h2 : vs[i]? = some v) : (x, v) ∈ ps.zip vs := by
  have : (ps.zip vs)[i]? = some (x, v) := by
    rw [List.getElem?_zip_eq_some]; exact ⟨h1, h2⟩
  exact List.mem_of_getElem? this
theorem zip_fst {ps : List Str} {vs : List Value} (h : ps.length = vs.length) : (ps.zip vs).map (·.1) = ps := by
  rw [List.map_fst_zip]; omega

/-- a call's own frame, its names laid out -/
theorem enter_ok {sc : Scope} {ps : List Str} {args : List SV} {vs : List Value} {nv : Nat} {qual : Str} {func : Option Addr} {code : Value} {Q : Env → Shared → Prop} (hck : entCk sc nm ps = true) (I : InvH g os ad objs s) (r : RepL g os ad s.heap args vs) (hl : args.length = ps.length)
    (hQ : ∀ env own s', env.scope = sc → env.code = code → env.qual = qual → (∀ a ∈ own, s.heap.get? a = none) → Mono s s' → Inv g (own ++ os) own env nm (wrOf sc nm) ad ⟨vars0 args nv, objs⟩ s' → Q env s') :
    wpAny (model g.prog g.w) A (newFunctionEnv sc mainGlobals [] (ps.zip vs) qual func code none builtinsNs) Q E s := by
  unfold entCk at hck
  simp only [Bool.and_eq_true, beq_iff_eq, decide_eq_true_eq, List.all_eq_true, Bool.or_eq_true] at hck
  obtain ⟨⟨⟨⟨⟨⟨⟨hkind, hnd⟩, hnm2⟩, hnm1⟩, hps⟩, hpk⟩, hnk⟩, hsc⟩ := hck
  have hall : sc.names.all (fun p => sc.names.lookup p.1 == some p.2) = true := by
    rw [List.all_eq_true]; intro p hp; simpa using hsc p hp
  have hvl := r.length
  have hzl : ps.length = vs.length := by rw [hvl, hl]
  refine wpAny_newFunctionEnv_cells hkind (fun x hx => ?_) fun env henv s' ic => ?_
  · have hxp : x.1 ∈ ps := by
      have := List.mem_map_of_mem (f := (·.1)) hx
      rwa [zip_fst hzl] at this
    rcases hpk x.1 hxp with h | h
    · exact .inl h
    · exact .inr ⟨h, cells_isSome h hall⟩
  · have hcells : env.cells = cellsFrom (s.heap.objs.size + 1) sc.names [] := by rw [henv]; rfl
    have hloc : env.locals = s.heap.objs.size := by rw [henv]; rfl
    have hscope : env.scope = sc := by rw [henv]; rfl
    have hko : env.kindOf = fun x => sc.names.lookup x := by funext x; show env.scope.names.lookup x = _; rw [hscope]
    obtain ⟨h', tk, rfl⟩ := ic.toInCall.same
    have m : Mono s { s with heap := h', toks := tk } := ⟨ic.toInCall.keep, rfl, rfl⟩
    have fresh : ∀ a, s.heap.objs.size ≤ a → s.heap.get? a = none := fun a ha => Heap.get?_none_of_le ha
    generalize hO : (env.locals :: nm.filterMap fun p => if sc.names.lookup p.1 = some .cell then env.cells.lookup p.1 else none) = ow
    have memO : ∀ a ∈ ow, a = env.locals ∨ ∃ x, env.cells.lookup x = some a := by
      intro a ha
      rw [← hO] at ha
      rcases List.mem_cons.mp ha with h | h
      · exact .inl h
      · obtain ⟨p, _, hp⟩ := List.mem_filterMap.mp h
        split at hp
        · exact .inr ⟨_, hp⟩
        · cases hp
    have hown : ∀ a ∈ ow, s.heap.get? a = none := by
      intro a ha
      rcases memO a ha with rfl | ⟨x, hx⟩
      · exact fresh _ (by rw [hloc]; exact Nat.le_refl _)
      · have := ic.above x a (mem_of_lookup hx)
        rw [hloc] at this
        exact fresh _ (Nat.le_of_lt this)
    have hlive : ∀ a ∈ ow, ∃ o, h'.get? a = some o := by
      intro a ha
      rcases memO a ha with rfl | ⟨x, hx⟩
      · obtain ⟨o, _, _, e, _⟩ := ic.toInCall.ns
        exact ⟨o, e⟩
      · obtain ⟨o, e, _⟩ := ic.cell x a hx
        exact ⟨o, e⟩
    have H' := I.grow (new := ow) m hown hlive
    have st := Stays.grow (g := g) (os := os) (ad := ad) (new := ow) m hown
    have r' : RepL g (ow ++ os) ad h' args vs := r.stays st
    have locO : env.locals ∈ ow := by rw [← hO]; simp
    have cellO : ∀ x i c, nm.lookup x = some i → sc.names.lookup x = some .cell → env.cells.lookup x = some c → c ∈ ow := by
      intro x i c h1 h2 h3
      rw [← hO]
      refine List.mem_cons_of_mem _ (List.mem_filterMap.mpr ⟨(x, i), mem_of_lookup h1, ?_⟩)
      rw [if_pos h2]; exact h3
    have hbn : ((ps.zip vs).map (·.1)).Nodup := by rw [zip_fst hzl]; exact hnd
    -- what a name is at first
    have val : ∀ x i sv, nm.lookup x = some i → (vars0 args nv)[i]? = some sv → sv = .unb ∨ ∃ v, (x, v) ∈ ps.zip vs ∧ Rep g (ow ++ os) ad h' sv v := by
      intro x i sv h1 h2
      unfold vars0 at h2
      by_cases hi : i < args.length
      · rw [List.getElem?_append_left hi] at h2
        obtain ⟨v, hv, rv⟩ := r'.get i sv h2
        have hip : i < ps.length := by rw [← hl]; exact hi
        have hpi : ps[i]? = some ps[i] := List.getElem?_eq_getElem hip
        have hz := hps (ps[i], i) (by rw [List.mem_zipIdx_iff_getElem?]; simpa using hpi)
        have : x = ps[i] := lookup_nodup hnm2 h1 hz
        subst this
        exact .inr ⟨v, zip_mem hpi hv, rv⟩
      · rw [List.getElem?_append_right (Nat.le_of_not_lt hi), List.getElem?_replicate] at h2
        split at h2
        · cases h2; exact .inl rfl
        · cases h2
    refine hQ env ow _ hscope (by rw [henv]; rfl) (by rw [henv]; rfl) hown m ⟨H', ?_⟩
    have hno : ∀ a ∈ ow, a ∉ adr ad ∧ a ∉ g.tabs := fun a ha => ⟨H'.ap1 a (by simp [ha]), fun q => (H'.ap2 a q).1 (by simp [ha])⟩
    refine ⟨by rw [hscope]; exact hkind, by rw [henv]; rfl, by rw [henv]; rfl, fun a ha => by simp [ha], locO, ⟨_, ic.toInCall.ns, fun x i h1 h2 sv h3 => ?_⟩, fun x i h1 h2 => ?_, fun x y i h1 h2 => lookup_nodup hnm2 h1 h2, fun x hx => ?_⟩
    · rcases val x i sv h1 h3 with e | ⟨v, hv, rv⟩
      · exact .inl e
      · exact .inr ⟨v, bindL_get hbn hv h2, rv⟩
    · have hkx : sc.names.lookup x = some .cell := by
        have hx := hnk _ (mem_of_lookup h1)
        rw [hko] at h2
        rcases hx with hx | hx
        · exact (h2 hx).elim
        · exact hx
      have hsome : (env.cells.lookup x).isSome = true := by rw [hcells]; exact cells_isSome hkx hall
      obtain ⟨cc, hcc⟩ := Option.isSome_iff_exists.mp hsome
      refine ⟨.inl (by rw [hko]; exact hkx), cc, _, hcc, ic.cell x cc hcc, fun sv q => ?_, ?_, (hno cc (cellO x i cc h1 hkx hcc)).1, (hno cc (cellO x i cc h1 hkx hcc)).2⟩
      · rcases val x i sv h1 q with e | ⟨v, hv, rv⟩
        · exact .inl e
        · exact .inr ⟨v, bindC_get hbn hv h2, rv⟩
      · have := ic.above x cc (mem_of_lookup hcc)
        exact Nat.ne_of_gt this
    · unfold wrOf at hx
      simp only [Bool.and_eq_true, Bool.or_eq_true, beq_iff_eq] at hx
      obtain ⟨hx1, hx2⟩ := hx
      obtain ⟨i, hi⟩ := Option.isSome_iff_exists.mp hx1
      rcases hx2 with hx2 | hx2
      · exact .inl (by rw [hko]; exact hx2)
      · refine .inr ⟨by rw [hko]; exact hx2, fun cc hcc => ⟨cellO x i cc hi hx2 hcc, fun y hy => ?_⟩⟩
        exact name_of_addr ic.apart (mem_of_lookup hy) (mem_of_lookup hcc)

theorem Step.after (m : Mono s s2) (S : Step g own ad s2 ad' s') (hn : ∀ a ∈ own, s.heap.get? a = none) : Step g [] ad s ad' s' := by
  obtain ⟨e, rfl, he⟩ := S.ext
  refine ⟨⟨e, rfl, fun a ha => ?_⟩, fun a o h1 h2 h3 q => S.keep a o (fun hm => by rw [hn a hm] at q; cases q) h2 h3 (m.keep a o q), S.rest.1.trans m.rest.1, S.rest.2.trans m.rest.2⟩
  cases q : s.heap.get? a with
  | none => rfl
  | some o => have := m.keep a o q; rw [he a ha] at this; cases this

def retV : Fl → SV
  | .ret v => v
  | _ => .none

/-- a function of the text's own is called: its body is walked anyhow -/
theorem fn_code {k : Nat} {o : Obj} {fd : FuncData} {body : List Stmt} {ps : List Str} {W : St → (Fl → St → Prop) → Prop} {nv : Nat} {args dfl : List SV} {K : SV → List AO → Prop} (G0 : GOk g N c)
    (ho : g.h₀.get? (g.faddr k) = some o) (hd : o.data = .func fd) (hbody : fd.body = .stmts body) (hco : fd.scope.isCoroutine = false) (hgen : fd.scope.isGenerator = false) (hcl : fd.closure = []) (hgl : fd.globals = mainGlobals) (hbl : fd.builtins = builtinsNs)
    (hcd : g.h₀.CodeRec fd.code fd.qualname) (hck : entCk fd.scope nm ps = true)
    (hX : ∀ env : Env, env.scope = fd.scope → env.code = fd.code → env.qual = fd.qualname ++ ".<locals>." → TrS g N c ℓ W env nm (wrOf fd.scope nm) (execs body env))
    (hb : ∀ (s : Shared) (vals : List Value), (∀ a o, g.h₀.get? a = some o → s.heap.get? a = some o) → vals.length = args.length → ∃ dv, BindsTo s fd ⟨vals, []⟩ (ps.zip (vals ++ dv)) ∧ ∀ os ad, InvH g os ad objs s → RepL g os ad s.heap dfl dv) (hl : args.length + dfl.length = ps.length)
    (w : W ⟨vars0 (args ++ dfl) nv, objs⟩ fun fl σ => K (retV fl) σ.objs) {vals : List Value} {R : Result → Shared → Prop} (hA : AOk A (ℓ + 1)) (I : InvH g os ad objs s) (r : RepL g os ad s.heap args vals)
    (post : ∀ v r objs' ad' s', K r objs' → Rep g os ad' s'.heap r v → InvH g os ad' objs' s' → Step g [] ad s ad' s' → R (.ok (.ret v)) s') : codeAny (model g.prog g.w) A (.call (.ref (g.faddr k)) ⟨vals, []⟩) R s := by
  have ho' := I.base _ _ ho
  obtain ⟨hA1, hA2, hA3⟩ := hA
  refine codeAny_call_function (by show A.depth < 1000; omega) ho' hd hco hgen hbody (hcd.keeps I.base) ?_
  obtain ⟨dv, hbd, hdv⟩ := hb s vals I.base r.length
  refine hbd _ _ _ _ ?_
  rw [hgl, hbl, hcl]
  refine enter_ok (ps := ps) (nv := nv) hck I (r.append (hdv os ad I)) (by rw [List.length_append]; exact hl) fun env own s2 hsc hcode hqual hown m I2 => ⟨G0.nolim.keeps I2.H.base, ?_⟩
  refine codeAny_func ?_
  refine hX env hsc hcode hqual (own ++ os) own (A.deeper env) ad _ s2 _ _ _ ⟨hA1, by show A.depth + 1 + ℓ < 900; omega, by show A.units + 3 + 20 * ℓ < 9000; omega⟩ I2 w fun f fl ad3 σ3 s3 k3 r3 I3 S3 => ?_
  have S' := Step.after m S3 hown
  have H3 := I3.H.shrink
  refine post _ _ _ _ _ k3 ?_ H3 S'
  cases f <;> cases fl <;> first | exact r3.elim | exact rfl | exact Rep.stays Stays.shrink _ _ r3

theorem fn_okH {k : Nat} {o : Obj} {fd : FuncData} {body : List Stmt} {ps : List Str} {W : St → (Fl → St → Prop) → Prop} {nv : Nat} {args dfl : List SV} {K : SV → List AO → Prop} (G0 : GOk g N c)
    (ho : g.h₀.get? (g.faddr k) = some o) (hd : o.data = .func fd) (hbody : fd.body = .stmts body) (hco : fd.scope.isCoroutine = false) (hgen : fd.scope.isGenerator = false) (hcl : fd.closure = []) (hgl : fd.globals = mainGlobals) (hbl : fd.builtins = builtinsNs)
    (hcd : g.h₀.CodeRec fd.code fd.qualname) (hck : entCk fd.scope nm ps = true)
    (hX : ∀ env : Env, env.scope = fd.scope → env.code = fd.code → env.qual = fd.qualname ++ ".<locals>." → TrS g N c ℓ W env nm (wrOf fd.scope nm) (execs body env))
    (hb : ∀ (s : Shared) (vals : List Value), (∀ a o, g.h₀.get? a = some o → s.heap.get? a = some o) → vals.length = args.length → ∃ dv, BindsTo s fd ⟨vals, []⟩ (ps.zip (vals ++ dv)) ∧ ∀ os ad, InvH g os ad objs s → RepL g os ad s.heap dfl dv) (hl : args.length + dfl.length = ps.length)
    (w : W ⟨vars0 (args ++ dfl) nv, objs⟩ fun fl σ => K (retV fl) σ.objs) : CallOk g (ℓ + 1) (.fn k) args objs K := by
  intro A os ad s fv vals hA I rf r
  have : fv = .ref (g.faddr k) := rf
  subst this
  exact ⟨keep_fn s.heap (I.base _ _ ho) hd, fun Q E post => wpAny_call (fn_code (nv := nv) G0 ho hd hbody hco hgen hcl hgl hbl hcd hck hX hb hl w hA I r post)⟩

theorem kdOk_of {env : Env} {sc : Scope} (h : env.scope = sc) : KdOk env (fun x => sc.names.lookup x) := fun x => by
  have : env.kindOf x = sc.names.lookup x := by show env.scope.names.lookup x = _; rw [h]
  rw [this]; exact ⟨fun h => h, fun h => h, fun h => h⟩

/-- a function of the text's own is called -/
theorem fn_ok {k : Nat} {o : Obj} {fd : FuncData} {body : List Stmt} {ps : List Str} {X : Ss} {nv : Nat} {args dfl : List SV} {K : SV → List AO → Prop} (G0 : GOk g N c) (Sp : SpOk g N c ℓ) (hN : ∀ j, N.fname j = g.fname j) (hinj : ∀ f j, f < 9 → g.fname j = g.fname f → j = f)
    (ho : g.h₀.get? (g.faddr k) = some o) (hd : o.data = .func fd) (hbody : fd.body = .stmts body) (hco : fd.scope.isCoroutine = false) (hgen : fd.scope.isGenerator = false) (hcl : fd.closure = []) (hgl : fd.globals = mainGlobals) (hbl : fd.builtins = builtinsNs)
    (hcd : g.h₀.CodeRec fd.code fd.qualname) (hck : entCk fd.scope nm ps = true) (hX : ckSs N (fun x => fd.scope.names.lookup x) nm (wrOf fd.scope nm) X body = true)
    (hb : ∀ (s : Shared) (vals : List Value), (∀ a o, g.h₀.get? a = some o → s.heap.get? a = some o) → vals.length = args.length → ∃ dv, BindsTo s fd ⟨vals, []⟩ (ps.zip (vals ++ dv)) ∧ ∀ os ad, InvH g os ad objs s → RepL g os ad s.heap dfl dv) (hl : args.length + dfl.length = ps.length)
    (w : wpSs c X ⟨vars0 (args ++ dfl) nv, objs⟩ fun fl σ => K (retV fl) σ.objs) : CallOk g (ℓ + 1) (.fn k) args objs K :=
  fn_okH (nv := nv) G0 ho hd hbody hco hgen hcl hgl hbl hcd hck (fun env hsc _ _ => okSs G0 Sp hN hinj X body _ nm _ env (kdOk_of hsc) hX) hb hl w
end
end Vc
end
section
open PySem PySem.W PyProof.Rows PySem.Calls
set_option maxRecDepth 10000
set_option autoImplicit false
set_option linter.unusedVariables false
set_option linter.unusedSectionVars false
namespace Vc

/-- names numbered, the parameters ahead, then what is captured -/
def entCkF (sc : Scope) (nm : List (Str × Nat)) (ps free : List Str) : Bool :=
  sc.kind == .function && decide ps.Nodup && decide ((nm.map (·.2)).Nodup) && decide ((ps ++ free).Nodup) &&
  ((ps ++ free).zipIdx.all fun p => nm.lookup p.1 == some p.2) &&
  (ps.all fun p => sc.names.lookup p == some .local) &&
  (nm.all fun p => sc.names.lookup p.1 == some .local || (sc.names.lookup p.1 == some .free && free.contains p.1)) &&
  (sc.names.all fun p => p.2 != .cell) && (free.all fun p => sc.names.lookup p == some .free)

section
variable {g : G} {N : Nms} {c : C} {ℓ : Nat} {env : Env} {nm : List (Str × Nat)} {os own : List Addr} {wr : Str → Bool} {ad ad' : AD} {σ : St} {s s' s2 : Shared} {A : Around} {E : Value → Shared → Prop} {objs : List AO} {h : Heap}

theorem CellsAt.get : ∀ {fr : List Str} {cl : List (Str × Addr)} {vs : List Value} {i : Nat} {x : Str}, CellsAt g os ad h fr cl vs → fr.Nodup → fr[i]? = some x → ∃ c v oc, cl.lookup x = some c ∧ vs[i]? = some v ∧ Fz g os ad h c oc ∧ oc.data = .cell (some v)
  | [], _, _, i, x, _, _, e => by simp at e
  | y :: r, cl, vs, 0, x, h, _, e => by
    obtain ⟨c, cl', v, vs', rfl, rfl, ⟨oc, h1, h2⟩, _⟩ := h
    simp at e; subst e
    exact ⟨c, v, oc, by simp [List.lookup_cons], by simp, h1, h2⟩
  | y :: r, cl, vs, i + 1, x, h, hn, e => by
    obtain ⟨c, cl', v, vs', rfl, rfl, _, h3⟩ := h
    simp at e
    simp only [List.nodup_cons] at hn
    obtain ⟨c', v', oc, h4, h5, h6⟩ := CellsAt.get h3 hn.2 e
    refine ⟨c', v', oc, ?_, by simpa using h5, h6⟩
    rw [List.lookup_cons]
    have : (x == y) = false := by
      rw [beq_eq_false_iff_ne]
      rintro rfl
      exact hn.1 (List.mem_of_getElem? e)
    rw [this]; exact h4
theorem CellsAt.len : ∀ {fr : List Str} {cl : List (Str × Addr)} {vs : List Value}, CellsAt g os ad h fr cl vs → vs.length = fr.length
  | [], _, _, h => by rw [h.2]; rfl
  | y :: r, _, _, h => by
    obtain ⟨c, cl', v, vs', rfl, rfl, _, h3⟩ := h
    simp [CellsAt.len h3]

theorem enter_clo {sc : Scope} {ps free : List Str} {args caps : List SV} {vs cvs : List Value} {cl : List (Str × Addr)} {nv : Nat} {qual : Str} {func : Option Addr} {code : Value} {Q : Env → Shared → Prop} (hck : entCkF sc nm ps free = true) (I : InvH g os ad objs s) (r : RepL g os ad s.heap args vs) (rc : RepL g os ad s.heap caps cvs) (hcl : CellsAt g os ad s.heap free cl cvs) (hl : args.length = ps.length)
    (hQ : ∀ env own s', env.scope = sc → env.code = code → (∀ a ∈ own, s.heap.get? a = none) → Mono s s' → Inv g (own ++ os) own env nm (wrOf sc nm) ad ⟨vars0 (args ++ caps) nv, objs⟩ s' → Q env s') :
    wpAny (model g.prog g.w) A (newFunctionEnv sc mainGlobals cl (ps.zip vs) qual func code none builtinsNs) Q E s := by
  unfold entCkF at hck
  simp only [Bool.and_eq_true, beq_iff_eq, decide_eq_true_eq, List.all_eq_true, Bool.or_eq_true, bne_iff_ne, ne_eq] at hck
  obtain ⟨⟨⟨⟨⟨⟨⟨⟨hkind, hnd⟩, hnm2⟩, hnf⟩, hps⟩, hpk⟩, hnk⟩, hsc⟩, hfk⟩ := hck
  have hvl := r.length
  have hcl' := rc.length
  have hfl := hcl.len
  have hzl : ps.length = vs.length := by rw [hvl, hl]
  refine wpAny_newFunctionEnv hsc (fun x hx => ?_) (fun h' hns hsb => ?_) hkind
  · have hxp : x.1 ∈ ps := by
      have := List.mem_map_of_mem (f := (·.1)) hx
      rwa [zip_fst hzl] at this
    exact hpk _ hxp
  · simp only [Option.isSome_none, Bool.false_eq_true, if_false] at hsb
    generalize hE : newEnv sc s.heap.objs.size mainGlobals cl qual func code none builtinsNs = env
    have hcells : env.cells = cl := by rw [← hE]; rfl
    have hloc : env.locals = s.heap.objs.size := by rw [← hE]; rfl
    have hscope : env.scope = sc := by rw [← hE]; rfl
    have hko : env.kindOf = fun x => sc.names.lookup x := by funext x; show env.scope.names.lookup x = _; rw [hscope]
    have hf : s.heap.get? s.heap.objs.size = none := Heap.get?_none_of_le (Nat.le_refl _)
    have m : ∀ t, Mono s { s with heap := h', toks := t } := fun t => ⟨fun b o e => hsb.extBut b o (none_ne e hf) (Heap.get?_push_of_some _ e), rfl, rfl⟩
    have mm := m (s.toks + (ps.zip vs).length)
    have hown : ∀ a ∈ [env.locals], s.heap.get? a = none := by simp [hloc, hf]
    have hlive : ∀ a ∈ [env.locals], ∃ o, h'.get? a = some o := by
      obtain ⟨o, _, _, e, _⟩ := hns
      simp [hloc, e]
    have H' := I.grow (new := [env.locals]) mm hown hlive
    have st := Stays.grow (g := g) (os := os) (ad := ad) (new := [env.locals]) mm hown
    have r' : RepL g ([env.locals] ++ os) ad h' (args ++ caps) (vs ++ cvs) := (r.append rc).stays st
    have hbn : ((ps.zip vs).map (·.1)).Nodup := by rw [zip_fst hzl]; exact hnd
    have fnd : free.Nodup := (List.nodup_append.mp hnf).2.1
    refine hQ env [env.locals] _ hscope (by rw [← hE]; rfl) hown mm ⟨H', ?_⟩
    have idx : ∀ x i, nm.lookup x = some i → i < (ps ++ free).length → (ps ++ free)[i]? = some x := by
      intro x i h1 hi
      have hpi : (ps ++ free)[i]? = some (ps ++ free)[i] := List.getElem?_eq_getElem hi
      have hz := hps ((ps ++ free)[i], i) (by rw [List.mem_zipIdx_iff_getElem?]; simpa using hpi)
      rw [lookup_nodup hnm2 h1 hz]; exact hpi
    have ilt : ∀ i sv, (vars0 (args ++ caps) nv)[i]? = some sv → sv = .unb ∨ (i < (ps ++ free).length ∧ (args ++ caps)[i]? = some sv) := by
      intro i sv h2
      unfold vars0 at h2
      by_cases hi : i < (args ++ caps).length
      · rw [List.getElem?_append_left hi] at h2
        exact .inr ⟨by rw [List.length_append, ← hl, ← hfl, hcl', ← List.length_append]; exact hi, h2⟩
      · rw [List.getElem?_append_right (Nat.le_of_not_lt hi), List.getElem?_replicate] at h2
        split at h2
        · cases h2; exact .inl rfl
        · cases h2
    refine ⟨by rw [hscope]; exact hkind, by rw [← hE]; rfl, by rw [← hE]; rfl, by simp, by simp, ⟨_, by rw [hloc]; exact hns, fun x i h1 h2 sv h3 => ?_⟩, fun x i h1 h2 => ?_, fun x y i h1 h2 => lookup_nodup hnm2 h1 h2, fun x hx => ?_⟩
    · rcases ilt i sv h3 with e | ⟨hi, e⟩
      · exact .inl e
      · have hx := idx x i h1 hi
        by_cases hip : i < ps.length
        · rw [List.getElem?_append_left hip] at hx
          rw [List.getElem?_append_left (by omega)] at e
          obtain ⟨v, hv, rv⟩ := (r.stays st).get i sv e
          refine .inr ⟨v, ?_, rv⟩
          have hm := zip_mem hx hv
          have nd : ((ps.zip vs).reverse.map (·.1)).Nodup := by rw [List.map_reverse, List.Nodup, List.pairwise_reverse]; exact hbn.imp fun h => h.symm
          have : ∀ (l : List (Str × Value)), (l.map (·.1)).Nodup → (x, v) ∈ l → l.lookup x = some v := by
            intro l
            induction l with
            | nil => intro _ h; simp at h
            | cons p q ih =>
              intro hn hm
              simp only [List.map_cons, List.nodup_cons] at hn
              rw [List.lookup_cons]
              rcases List.mem_cons.mp hm with rfl | hm
              · simp
              · have : (x == p.1) = false := by
                  rw [beq_eq_false_iff_ne]
                  intro e
                  exact hn.1 (List.mem_map.mpr ⟨_, hm, e⟩)
                rw [this]; exact ih hn.2 hm
          exact this _ nd (List.mem_reverse.mpr hm)
        · rw [List.getElem?_append_right (by omega)] at hx
          have hxf : x ∈ free := List.mem_of_getElem? hx
          rw [hko] at h2
          exfalso
          have e1 : sc.names.lookup x = some .local := h2
          rw [hfk x hxf] at e1; cases e1
    · have hx : sc.names.lookup x = some .free ∧ x ∈ free := by
        rw [hko] at h2
        rcases hnk _ (mem_of_lookup h1) with q | q
        · exact (h2 q).elim
        · exact ⟨q.1, by simpa using q.2⟩
      obtain ⟨hxk, hxf⟩ := hx
      obtain ⟨j, hj, hjx⟩ := List.getElem_of_mem hxf
      have hj' : free[j]? = some x := by rw [← hjx]; exact List.getElem?_eq_getElem hj
      obtain ⟨cc, v, oc, g1, g2, g3, g4⟩ := hcl.get fnd hj'
      have hi : nm.lookup x = some (ps.length + j) := by
        refine hps (x, ps.length + j) ?_
        rw [List.mem_zipIdx_iff_getElem?]
        show (ps ++ free)[ps.length + j]? = some x
        rw [List.getElem?_append_right (by omega), Nat.add_sub_cancel_left]; exact hj'
      rw [hi] at h1; cases h1
      have hcl2 : cc ≠ env.locals := by rw [hloc]; exact none_ne g3.1 hf
      have nmt := g3.2
      rw [mem_mt] at nmt
      simp only [not_or] at nmt
      refine ⟨.inr (by rw [hko]; exact hxk), cc, some v, by rw [hcells]; exact g1, ⟨oc, mm.keep _ _ g3.1, g4⟩, fun sv q => ?_, hcl2, nmt.2.1, nmt.2.2⟩
      rcases ilt _ sv q with e | ⟨_, e⟩
      · exact .inl e
      · rw [List.getElem?_append_right (by omega), hl, Nat.add_sub_cancel_left] at e
        obtain ⟨v', e1, e2⟩ := (rc.stays st).get j sv e
        rw [g2] at e1; cases e1
        exact .inr ⟨v, rfl, e2⟩
    · unfold wrOf at hx
      simp only [Bool.and_eq_true, Bool.or_eq_true, beq_iff_eq] at hx
      rcases hx.2 with q | q
      · exact .inl (by rw [hko]; exact q)
      · exact (hsc _ (mem_of_lookup q) rfl).elim

/-- a closure is called -/
theorem clo_ok {k : Nat} {body : List Stmt} {ps : List Str} {X : Ss} {nv : Nat} {args caps dfl : List SV} {K : SV → List AO → Prop} (G0 : GOk g N c) (Sp : SpOk g N c ℓ) (hN : ∀ j, N.fname j = g.fname j) (hinj : ∀ f j, f < 9 → g.fname j = g.fname f → j = f)
    (hbody : (g.clo k).body = .stmts body) (hco : (g.clo k).scope.isCoroutine = false) (hgen : (g.clo k).scope.isGenerator = false)
    (hck : entCkF (g.clo k).scope nm ps (g.clo k).free = true) (hX : ckSs N (fun x => (g.clo k).scope.names.lookup x) nm (wrOf (g.clo k).scope nm) X body = true)
    (hb : ∀ (s : Shared) (cl : List (Str × Addr)) (dt : Addr) (doc pm ctv cv : Value) (vals dv : List Value), vals.length = args.length → dv.length = dfl.length → s.heap.get? dt = some (kdv_tup dv) →
      BindsTo s (kdv_fn (g.clo k).name (g.clo k).qual (g.clo k).params (g.clo k).body (g.clo k).scope cl (.ref dt) doc pm cv ctv) ⟨vals, []⟩ (ps.zip (vals ++ dv.drop (dv.length - (ps.length - vals.length)))))
    (hd0 : dfl ≠ []) (hc : caps.length = (g.clo k).free.length) (hl : args.length ≤ ps.length) (hl2 : ps.length - args.length ≤ dfl.length)
    (w : wpSs c X ⟨vars0 ((args ++ dfl.drop (dfl.length - (ps.length - args.length))) ++ caps) nv, objs⟩ fun fl σ => K (retV fl) σ.objs) : CallOk g (ℓ + 1) (.clo k (caps ++ dfl)) args objs K := by
  intro A os ad s fv vals hA I rf r
  obtain ⟨a, cvs, dvs, rfl, ⟨cl, dV, pm, doc, ctv, cv, h1, h2, h3, h4⟩, rcd⟩ := rf
  have hcl := h2.len
  have rc : RepL g os ad s.heap caps cvs := by
    have := rcd.take caps.length
    rw [List.take_left, hc, ← hcl, List.take_left] at this
    exact this
  have rd : RepL g os ad s.heap dfl dvs := by
    have := rcd.drop caps.length
    rw [List.drop_left, hc, ← hcl, List.drop_left] at this
    exact this
  have hdl := rd.length
  refine ⟨keep_fn s.heap h1.1 rfl, fun Q E post => wpAny_call ?_⟩
  obtain ⟨hA1, hA2, hA3⟩ := hA
  obtain ⟨c', oc, q, t, rfl, hcz, hcd, hcq⟩ := h4
  refine codeAny_call_function (by show A.depth < 1000; omega) h1.1 rfl hco hgen hbody ⟨c', oc, q, t, rfl, hcz.1, hcd, hcq⟩ ?_
  rcases h3 with ⟨rfl, _⟩ | ⟨_, dt, rfl, hdt⟩
  · exact (hd0 (List.length_eq_zero_iff.mp hdl.symm)).elim
  have hvl := r.length
  refine hb s cl dt doc pm ctv (.ref c') vals dvs hvl hdl hdt.1 _ _ _ _ ?_
  refine enter_clo (ps := ps) (nv := nv) (args := args ++ dfl.drop (dfl.length - (ps.length - args.length))) hck I (r.append (by rw [hvl, hdl]; exact rd.drop _)) rc h2 (by rw [List.length_append, List.length_drop]; omega) fun env own s2 hsc hcode hown m I2 => ⟨G0.nolim.keeps I2.H.base, ?_⟩
  have hkd : KdOk env (fun x => (g.clo k).scope.names.lookup x) := fun x => by
    have : env.kindOf x = (g.clo k).scope.names.lookup x := by show env.scope.names.lookup x = _; rw [hsc]
    rw [this]; exact ⟨fun h => h, fun h => h, fun h => h⟩
  refine codeAny_func ?_
  refine okSs G0 Sp hN hinj X body _ nm _ env hkd hX (own ++ os) own (A.deeper env) ad _ s2 _ _ _ ⟨hA1, by show A.depth + 1 + ℓ < 900; omega, by show A.units + 3 + 20 * ℓ < 9000; omega⟩ I2 w fun f fl ad3 σ3 s3 k3 r3 I3 S3 => ?_
  have S' := Step.after m S3 hown
  have H3 := I3.H.shrink
  refine post _ _ _ _ _ k3 ?_ H3 S'
  cases f <;> cases fl <;> first | exact r3.elim | exact rfl | exact Rep.stays Stays.shrink _ _ r3

/-- a lambda is called -/
theorem lam_ok {k : Nat} {body : Expr} {ps : List Str} {X : X} {nv : Nat} {args : List SV} {K : SV → List AO → Prop} (G0 : GOk g N c) (Sp : SpOk g N c ℓ) (hN : ∀ j, N.fname j = g.fname j) (hinj : ∀ f j, f < 9 → g.fname j = g.fname f → j = f)
    (hbody : (g.clo k).body = .expr body) (hco : (g.clo k).scope.isCoroutine = false) (hgen : (g.clo k).scope.isGenerator = false) (hfree : (g.clo k).free = [])
    (hck : entCk (g.clo k).scope nm ps = true) (hX : ckE N (fun x => (g.clo k).scope.names.lookup x) nm X body = true)
    (hb : ∀ (s : Shared) (doc pm ctv cv : Value) (vals : List Value), vals.length = args.length →
      BindsTo s (kdv_fn (g.clo k).name (g.clo k).qual (g.clo k).params (g.clo k).body (g.clo k).scope [] .none doc pm cv ctv) ⟨vals, []⟩ (ps.zip vals))
    (hl : args.length = ps.length)
    (w : wpE c X ⟨vars0 args nv, objs⟩ fun v σ => K v σ.objs) : CallOk g (ℓ + 1) (.clo k []) args objs K := by
  intro A os ad s fv vals hA I rf r
  obtain ⟨a, cvs, dvs, rfl, ⟨cl, dV, pm, doc, ctv, cv, h1, h2, h3, h4⟩, rcd⟩ := rf
  rw [hfree] at h2
  obtain ⟨rfl, rfl⟩ := h2
  have hd : dvs = [] := by simpa using rcd.length
  subst hd
  rcases h3 with ⟨_, rfl⟩ | ⟨h, _⟩
  rotate_left
  · exact (h rfl).elim
  refine ⟨keep_fn s.heap h1.1 rfl, fun Q E post => wpAny_call ?_⟩
  obtain ⟨hA1, hA2, hA3⟩ := hA
  obtain ⟨c', oc, q, t, rfl, hcz, hcd, hcq⟩ := h4
  refine kla_callFunE (by show A.depth < 1000; omega) h1.1 rfl hco hgen hbody ⟨c', oc, q, t, rfl, hcz.1, hcd, hcq⟩ ?_
  refine hb s doc pm ctv (.ref c') vals r.length _ _ _ _ ?_
  refine enter_ok (ps := ps) (nv := nv) hck I r hl fun env own s2 hsc hcode _ hown m I2 => ⟨G0.nolim.keeps I2.H.base, ?_⟩
  have hkd : KdOk env (fun x => (g.clo k).scope.names.lookup x) := fun x => by
    have : env.kindOf x = (g.clo k).scope.names.lookup x := by show env.scope.names.lookup x = _; rw [hsc]
    rw [this]; exact ⟨fun h => h, fun h => h, fun h => h⟩
  refine kla_codeExpr ?_
  refine okE G0 Sp hN hinj X body _ nm env hkd hX (own ++ os) own _ (A.deeper env) ad _ s2 _ _ _ ⟨hA1, by show A.depth + 1 + ℓ < 900; omega, by show A.units + 3 + 20 * ℓ < 9000; omega⟩ I2 w fun v r3 ad3 σ3 s3 k3 rr I3 S3 => ?_
  have S' := Step.after m S3.toOwn hown
  exact post _ _ _ _ _ k3 (Rep.stays Stays.shrink _ _ rr) I3.H.shrink S'
end
end Vc
end
section
/-! numbers as polynomials over the field of two -/
set_option autoImplicit false
namespace Vc
def bl (n : Nat) : Nat := if n = 0 then 0 else n.log2 + 1
theorem bl_le {n m : Nat} : bl n ≤ m ↔ n < 2 ^ m := by
  unfold bl
  by_cases h : n = 0
  · subst h; simp [Nat.two_pow_pos]
  · rw [if_neg h, ← Nat.log2_lt h]; omega
theorem lt_bl {n m : Nat} : m < bl n ↔ 2 ^ m ≤ n := by
  have := @bl_le n m
  omega
theorem bl_pos {n : Nat} : 0 < bl n ↔ n ≠ 0 := by
  unfold bl; by_cases h : n = 0 <;> simp [h]
theorem bl_zero : bl 0 = 0 := rfl
theorem bl_shift {n k : Nat} (h : n ≠ 0) : bl (n * 2 ^ k) = bl n + k := by
  have hp := Nat.two_pow_pos k
  have h1 : bl (n * 2 ^ k) ≤ bl n + k := bl_le.mpr (by
    rw [Nat.pow_add]; exact Nat.mul_lt_mul_of_pos_right (bl_le.mp (Nat.le_refl _)) hp)
  have hb := bl_pos.mpr h
  have h2 : bl n - 1 + k < bl (n * 2 ^ k) := lt_bl.mpr (by
    rw [Nat.pow_add]; exact Nat.mul_le_mul_right _ (lt_bl.mp (by omega)))
  omega
theorem testBit_bl {n i : Nat} (h : bl n ≤ i) : n.testBit i = false := Nat.testBit_lt_two_pow (bl_le.mp h)
theorem testBit_top {n : Nat} (h : n ≠ 0) : n.testBit (bl n - 1) = true := by
  have hb := bl_pos.mpr h
  have h1 : 2 ^ (bl n - 1) ≤ n := lt_bl.mp (by omega)
  have h2 : n < 2 ^ (bl n) := bl_le.mp (Nat.le_refl _)
  rw [Nat.testBit_eq_decide_div_mod_eq]
  have e : 2 ^ bl n = 2 * 2 ^ (bl n - 1) := by
    rw [← Nat.pow_succ']; congr 1; omega
  have : n / 2 ^ (bl n - 1) = 1 := by
    apply Nat.div_eq_of_lt_le <;> omega
  rw [this]; rfl
theorem bl_xor_lt {a b : Nat} (h : bl a = bl b) (h0 : a ≠ 0) : bl (a ^^^ b) < bl a := by
  have ha := bl_pos.mpr h0
  have hb : b ≠ 0 := by rintro rfl; rw [bl_zero] at h; omega
  have : a ^^^ b < 2 ^ (bl a - 1) := by
    apply Nat.lt_pow_two_of_testBit
    intro i hi
    rw [Nat.testBit_xor]
    by_cases e : i = bl a - 1
    · subst e
      rw [testBit_top h0, h, testBit_top hb]; rfl
    · rw [testBit_bl (show bl a ≤ i by omega), testBit_bl (show bl b ≤ i by omega)]; rfl
  have := bl_le.mpr this
  omega
/-- what long division leaves -/
def prest (v p : Nat) : Nat := if h : bl p ≤ bl v ∧ p ≠ 0 then prest (v ^^^ p * 2 ^ (bl v - bl p)) p else v
termination_by bl v
decreasing_by
  have hv : v ≠ 0 := by
    rintro rfl
    have := bl_pos.mpr h.2
    rw [bl_zero] at h; omega
  exact bl_xor_lt (by rw [bl_shift h.2]; omega) hv
end Vc
end
section
open PySem PySem.W PyProof.Rows PySem.Calls
set_option autoImplicit false
set_option maxRecDepth 100000
namespace Vc
/-- a loop, with what holds at its head and a number that falls -/
theorem wh_ok {T : St → (Bool → St → Prop) → Prop} {B : St → (Fl → St → Prop) → Prop} {σ : St} {K : Fl → St → Prop} (I : Nat → St → Prop) (m : Nat) (h0 : I m σ)
    (step : ∀ m σ (R : Fl → St → Prop), I m σ → (∀ k σ', k < m → I k σ' → R .next σ') → (∀ k σ', k < m → I k σ' → R .cont σ') → (∀ σ', K .next σ' → R .brk σ') → (∀ v σ', K (.ret v) σ' → R (.ret v) σ') →
      T σ fun b σ' => if b then B σ' R else K .next σ') : ∃ n, whW T B n σ K := by
  have key : ∀ m σ, I m σ → ∀ n, m < n → whW T B n σ K := by
    intro m
    induction m using Nat.strongRecOn with
    | ind m ih =>
      intro σ hI n hn
      obtain ⟨n', rfl⟩ : ∃ n', n = n' + 1 := ⟨n - 1, by omega⟩
      exact step m σ (fun fl σ'' => match fl with
        | .next | .cont => whW T B n' σ'' K
        | .brk => K .next σ''
        | .ret v => K (.ret v) σ'') hI (fun k σ' hk hI' => ih k hk σ' hI' n' (by omega)) (fun k σ' hk hI' => ih k hk σ' hI' n' (by omega)) (fun _ h => h) (fun _ _ h => h)
  exact ⟨m + 1, key m σ h0 _ (Nat.lt_succ_self m)⟩

theorem for_ok {tg : List Nat} {B : St → (Fl → St → Prop) → Prop} {gd : List AO → Prop} {l : List SV} {σ : St} {K : Fl → St → Prop} (I : Nat → St → Prop) (h0 : I 0 σ) (hg : ∀ i σ, I i σ → gd σ.objs)
    (step : ∀ i x σ (R : Fl → St → Prop), l[i]? = some x → I i σ → (∀ σ', I (i + 1) σ' → R .next σ') → (∀ σ', I (i + 1) σ' → R .cont σ') → (∀ σ', K .next σ' → R .brk σ') → (∀ v σ', K (.ret v) σ' → R (.ret v) σ') →
      asgW tg x σ.vars fun vars => B ⟨vars, σ.objs⟩ R) (hend : ∀ σ, I l.length σ → K .next σ) : forW tg B gd l σ K := by
  have key : ∀ (r : List SV) i σ, i + r.length = l.length → (∀ j, r[j]? = l[i + j]?) → I i σ → forW tg B gd r σ K := by
    intro r
    induction r with
    | nil =>
      intro i σ h1 h2 h3
      have : i = l.length := by simpa using h1
      subst this
      exact ⟨hg _ _ h3, hend _ h3⟩
    | cons x r ih =>
      intro i σ h1 h2 h3
      refine ⟨hg _ _ h3, ?_⟩
      have hn : ∀ σ', I (i + 1) σ' → forW tg B gd r σ' K := fun σ' h => ih (i + 1) σ' (by simp at h1; omega) (fun j => by
        have := h2 (j + 1)
        rw [List.getElem?_cons_succ] at this
        rw [this]; congr 1; omega) h
      exact step i x σ (fun fl σ' => match fl with
        | .next | .cont => forW tg B gd r σ' K
        | .brk => K .next σ'
        | .ret v => K (.ret v) σ') (by simpa using (h2 0).symm) h3 hn hn (fun _ h => h) (fun _ _ h => h)
  exact key l 0 σ (by simp) (fun j => by simp) h0

/-- a comprehension with no test -/
theorem comp_okW {E : St → (SV → St → Prop) → Prop} {tg : List Nat} {gd : List AO → Prop} {l : List SV} {σ : St} {K : List SV → St → Prop} (I : Nat → List SV → St → Prop) (h0 : I 0 [] σ) (hg : ∀ i acc σ, I i acc σ → gd σ.objs)
    (step : ∀ i x acc σ (R : SV → St → Prop), l[i]? = some x → I i acc σ → (∀ y σ', I (i + 1) (acc ++ [y]) σ' → R y σ') → asgW tg x σ.vars fun vars => E ⟨vars, σ.objs⟩ R) (hend : ∀ acc σ, I l.length acc σ → K acc σ) :
    compW E (fun σ K => K true σ) tg gd l [] σ K := by
  have key : ∀ (r : List SV) i acc σ, i + r.length = l.length → (∀ j, r[j]? = l[i + j]?) → I i acc σ → compW E (fun σ K => K true σ) tg gd r acc σ K := by
    intro r
    induction r with
    | nil =>
      intro i acc σ h1 h2 h3
      have : i = l.length := by simpa using h1
      subst this
      exact ⟨hg _ _ _ h3, hend _ _ h3⟩
    | cons x r ih =>
      intro i acc σ h1 h2 h3
      refine ⟨hg _ _ _ h3, ?_⟩
      have hn : ∀ y σ', I (i + 1) (acc ++ [y]) σ' → compW E (fun σ K => K true σ) tg gd r (acc ++ [y]) σ' K := fun y σ' h => ih (i + 1) _ σ' (by simp at h1; omega) (fun j => by
        have := h2 (j + 1)
        rw [List.getElem?_cons_succ] at this
        rw [this]; congr 1; omega) h
      exact step i x acc σ (fun y σ' => compW E (fun σ K => K true σ) tg gd r (acc ++ [y]) σ' K) (by simpa using (h2 0).symm) h3 hn
  exact key l 0 [] σ (by simp) (fun j => by simp) h0

theorem intBits_nat (n : Nat) : Builtin.Int.intBits (n : Int) = bl n := by
  unfold Builtin.Int.intBits bl
  by_cases h : n = 0
  · subst h; rfl
  · rw [if_neg h]
    have : ((n : Int) == 0) = false := by simpa using h
    rw [this]; rfl
theorem bitAnd_nat (a b : Nat) : Builtin.bitAnd (a : Int) (b : Int) = ((a &&& b : Nat) : Int) := by
  unfold Builtin.bitAnd
  rw [decide_eq_true (show (0 : Int) ≤ a by omega), decide_eq_true (show (0 : Int) ≤ b by omega)]
  rfl
theorem xor_add_and (a b : Nat) : (a ^^^ b) + 2 * (a &&& b) = a + b := by
  induction a using Nat.strongRecOn generalizing b with
  | ind a ih =>
    by_cases h : a = 0
    · subst h; simp
    · have := ih (a / 2) (by omega) (b / 2)
      have e1 := @Nat.xor_div_two a b
      have e2 := @Nat.and_div_two a b
      have e3 := @Nat.xor_mod_two_eq_one a b
      have e4 := @Nat.and_mod_two_eq_one a b
      rw [← e1, ← e2] at this
      omega
theorem or_eq (a b : Nat) : (a ||| b) = (a ^^^ b) + (a &&& b) := by
  induction a using Nat.strongRecOn generalizing b with
  | ind a ih =>
    by_cases h : a = 0
    · subst h; simp
    · have := ih (a / 2) (by omega) (b / 2)
      have e1 := @Nat.xor_div_two a b
      have e2 := @Nat.and_div_two a b
      have e3 := @Nat.xor_mod_two_eq_one a b
      have e4 := @Nat.and_mod_two_eq_one a b
      have e5 := @Nat.or_div_two a b
      have e6 := @Nat.or_mod_two_eq_one a b
      rw [← e1, ← e2, ← e5] at this
      omega
theorem bitXor_nat (a b : Nat) : Builtin.bitXor (a : Int) (b : Int) = ((a ^^^ b : Nat) : Int) := by
  rw [bitXor_and, bitAnd_nat]
  have := xor_add_and a b
  omega
theorem bitOr_nat (a b : Nat) : Builtin.bitOr (a : Int) (b : Int) = ((a ||| b : Nat) : Int) := by
  have h : Builtin.bitXor (a : Int) (b : Int) = Builtin.bitOr (a : Int) b - Builtin.bitAnd (a : Int) b := rfl
  rw [bitXor_nat, bitAnd_nat] at h
  have := or_eq a b
  omega
theorem shl_nat (a b : Nat) : (a : Int) * 2 ^ ((b : Int)).toNat = ((a * 2 ^ b : Nat) : Int) := by
  rw [Int.toNat_natCast]; push_cast; rfl
theorem shr_nat (a b : Nat) : (a : Int).fdiv (2 ^ ((b : Int)).toNat) = ((a / 2 ^ b : Nat) : Int) := by
  rw [Int.toNat_natCast]
  have : (2 : Int) ^ b = ((2 ^ b : Nat) : Int) := by push_cast; rfl
  rw [this, Int.fdiv_eq_ediv_of_nonneg _ (Int.natCast_nonneg _)]
  rfl
theorem bl_xor_le {a b m : Nat} (h1 : bl a ≤ m) (h2 : bl b ≤ m) : bl (a ^^^ b) ≤ m :=
  bl_le.mpr (Nat.xor_lt_two_pow (bl_le.mp h1) (bl_le.mp h2))
theorem shl_sub {p a b : Nat} (h : b ≤ a) : (p : Int) * 2 ^ ((a : Int) - (b : Int)).toNat = ((p * 2 ^ (a - b) : Nat) : Int) := by
  rw [show (a : Int) - (b : Int) = ((a - b : Nat) : Int) by omega, shl_nat]
theorem bl_shift_le {p k m : Nat} (h : bl p + k ≤ m) : bl (p * 2 ^ k) ≤ m := by
  by_cases h0 : p = 0
  · subst h0; simp [bl_zero]
  · rw [bl_shift h0]; exact h

theorem one_nat : (1 : Int) = ((1 : Nat) : Int) := rfl
theorem zero_nat : (0 : Int) = ((0 : Nat) : Int) := rfl
theorem bl_one : bl 1 = 1 := rfl
end Vc
namespace Vc
theorem drec {p : Prop} {d : Decidable p} {f : ¬p → Prop} {g : p → Prop} (h2 : ∀ h : p, g h) (h1 : ∀ h : ¬p, f h) : @Decidable.rec p (fun _ => Prop) f g d := by
  cases d with
  | isTrue h => exact h2 h
  | isFalse h => exact h1 h
end Vc
end
section
set_option autoImplicit false
namespace Vc
/-- the share and what is left -/
def pshare (v p : Nat) : Nat := if h : bl p ≤ bl v ∧ p ≠ 0 then 2 ^ (bl v - bl p) ||| pshare (v ^^^ p * 2 ^ (bl v - bl p)) p else 0
termination_by bl v
decreasing_by
  have hv : v ≠ 0 := by
    rintro rfl
    have := bl_pos.mpr h.2
    rw [bl_zero] at h; omega
  exact bl_xor_lt (by rw [bl_shift h.2]; omega) hv
/-- the product -/
def ctimes (a b : Nat) : Nat := if b = 0 then 0 else (if b % 2 = 1 then a else 0) ^^^ ctimes (2 * a) (b / 2)
/-- Euclid: what is left of a and b, and the share of a in it -/
def peucl (a b u w : Nat) : Nat × Nat :=
  if hb : b = 0 then (a, u)
  else if h : bl a < bl b then peucl b a w u
  else peucl (a ^^^ b * 2 ^ (bl a - bl b)) b (u ^^^ w * 2 ^ (bl a - bl b)) w
termination_by 2 * (bl a + bl b) + (if bl a < bl b then 1 else 0)
decreasing_by
  · rw [if_pos h, if_neg (by omega)]; omega
  · have hbp := bl_pos.mpr hb
    have ha : a ≠ 0 := by rintro rfl; rw [bl_zero] at h; omega
    have := bl_xor_lt (a := a) (b := b * 2 ^ (bl a - bl b)) (by rw [bl_shift hb]; omega) ha
    rw [if_neg h]
    split <;> omega
end Vc
end
section
set_option autoImplicit false
namespace Vc
def revA : Nat → Nat → Nat → Nat
  | 0, _, y => y
  | n + 1, v, y => revA n (v / 2) (2 * y + v % 2)
/-- n bits, turned -/
def prev (n v : Nat) : Nat := revA n v 0
theorem revA_bit : ∀ (n v y i : Nat), (revA n v y).testBit i = if i < n then v.testBit (n - 1 - i) else y.testBit (i - n)
  | 0, v, y, i => by simp [revA]
  | n + 1, v, y, i => by
    rw [revA, revA_bit n]
    by_cases h : i < n
    · rw [if_pos h, if_pos (by omega), Nat.testBit_div_two]
      congr 1; omega
    · rw [if_neg h]
      by_cases h2 : i = n
      · subst h2
        rw [if_pos (by omega), Nat.sub_self]
        have e : i + 1 - 1 - i = 0 := by omega
        rw [e, Nat.testBit_zero, Nat.testBit_zero]
        have : (2 * y + v % 2) % 2 = v % 2 := by omega
        rw [this]
      · rw [if_neg (by omega)]
        have e : i - n = (i - (n + 1)) + 1 := by omega
        rw [e, Nat.testBit_succ]
        have : (2 * y + v % 2) / 2 = y := by omega
        rw [this]
theorem prev_bit (n v i : Nat) : (prev n v).testBit i = (decide (i < n) && v.testBit (n - 1 - i)) := by
  unfold prev
  rw [revA_bit]
  by_cases h : i < n <;> simp [h]
theorem prev_lt (n v : Nat) : prev n v < 2 ^ n := by
  apply Nat.lt_pow_two_of_testBit
  intro i hi
  rw [prev_bit]; simp; omega
theorem prev_prev {n v : Nat} (h : v < 2 ^ n) : prev n (prev n v) = v := by
  apply Nat.eq_of_testBit_eq
  intro i
  rw [prev_bit, prev_bit]
  by_cases hi : i < n
  · rw [show n - 1 - (n - 1 - i) = i by omega]
    simp [hi]; omega
  · simp [hi]
    rw [Nat.testBit_lt_two_pow (Nat.lt_of_lt_of_le h (Nat.pow_le_pow_right (by decide) (by omega)))]

def tstep (s m v : Nat) : Nat := (v / 2 ^ s &&& m) ||| (v &&& m) * 2 ^ s
def masksN : List (Nat × Nat) := [(1, 6148914691236517205), (2, 3689348814741910323), (4, 1085102592571150095), (8, 71777214294589695), (16, 281470681808895), (32, 4294967295)]
def fperm (s m i : Nat) : Nat := if m.testBit i then i + s else i - s
theorem tstep_bit {s m v i : Nat} (h1 : m.testBit i = false → s ≤ i ∧ m.testBit (i - s) = true) (h2 : m.testBit i = true → ¬ (s ≤ i ∧ m.testBit (i - s) = true)) : (tstep s m v).testBit i = v.testBit (fperm s m i) := by
  unfold tstep fperm
  rw [Nat.testBit_or, Nat.testBit_and, Nat.testBit_div_two_pow, Nat.testBit_mul_two_pow, Nat.testBit_and]
  cases hm : m.testBit i with
  | true =>
    have := h2 hm
    by_cases hs : s ≤ i
    · have h3 : m.testBit (i - s) = false := by
        cases e : m.testBit (i - s) with
        | false => rfl
        | true => exact (this ⟨hs, e⟩).elim
      simp [h3]
    · simp [hs]
  | false =>
    obtain ⟨h3, h4⟩ := h1 hm
    simp [h3, h4]
theorem masks_ok : ∀ p ∈ masksN, ∀ i, i < 64 → (p.2.testBit i = false → p.1 ≤ i ∧ p.2.testBit (i - p.1) = true) ∧ (p.2.testBit i = true → ¬ (p.1 ≤ i ∧ p.2.testBit (i - p.1) = true)) ∧ fperm p.1 p.2 i < 64 := by decide +kernel
theorem perm_ok : ∀ i, i < 64 → masksN.foldr (fun p i => fperm p.1 p.2 i) i = 63 - i := by decide +kernel
theorem fold_bit : ∀ (l : List (Nat × Nat)) (v i : Nat), (∀ p ∈ l, p ∈ masksN) → i < 64 → (l.foldl (fun v p => tstep p.1 p.2 v) v).testBit i = v.testBit (l.foldr (fun p i => fperm p.1 p.2 i) i) ∧ l.foldr (fun p i => fperm p.1 p.2 i) i < 64
  | [], v, i, _, hi => ⟨rfl, hi⟩
  | p :: l, v, i, hl, hi => by
    obtain ⟨h1, h2⟩ := fold_bit l (tstep p.1 p.2 v) i (fun q hq => hl q (by simp [hq])) hi
    obtain ⟨h3, h4, h5⟩ := masks_ok p (hl p (by simp)) _ h2
    rw [List.foldl_cons, List.foldr_cons, h1, tstep_bit h3 h4]
    exact ⟨rfl, h5⟩
def turn64 (v : Nat) : Nat := masksN.foldl (fun v p => tstep p.1 p.2 v) v
theorem turn64_bit {v i : Nat} (hi : i < 64) : (turn64 v).testBit i = v.testBit (63 - i) := by
  unfold turn64
  rw [(fold_bit masksN v i (fun p h => h) hi).1, perm_ok i hi]
theorem tstep_lt {s m v : Nat} (h1 : m * 2 ^ s < 2 ^ 64) : tstep s m v < 2 ^ 64 := by
  unfold tstep
  have hm : m < 2 ^ 64 := Nat.lt_of_le_of_lt (Nat.le_mul_of_pos_right _ (Nat.two_pow_pos s)) h1
  refine Nat.or_lt_two_pow (Nat.lt_of_le_of_lt Nat.and_le_right hm) (Nat.lt_of_le_of_lt (Nat.mul_le_mul_right _ Nat.and_le_right) h1)
theorem turn64_lt (v : Nat) : turn64 v < 2 ^ 64 := by
  unfold turn64 masksN
  simp only [List.foldl_cons, List.foldl_nil]
  exact tstep_lt (by decide)
theorem turned_eq {n v : Nat} (hn : n ≤ 64) : turn64 v / 2 ^ (64 - n) = prev n v := by
  apply Nat.eq_of_testBit_eq
  intro i
  rw [Nat.testBit_div_two_pow, prev_bit]
  by_cases hi : i < n
  · rw [turn64_bit (by omega)]
    simp only [hi, decide_true, Bool.true_and]
    congr 1; omega
  · rw [Nat.testBit_lt_two_pow (Nat.lt_of_lt_of_le (turn64_lt v) (Nat.pow_le_pow_right (by decide) (by omega)))]
    simp [hi]
end Vc
end
section
/-! the ring: numbers as polynomials over the field of two -/
set_option autoImplicit false
namespace Vc
theorem ctimes_zero (a : Nat) : ctimes a 0 = 0 := by unfold ctimes; rfl
theorem ctimes_rec {a b : Nat} : ctimes a b = (if b % 2 = 1 then a else 0) ^^^ ctimes (2 * a) (b / 2) := by
  by_cases h : b = 0
  · subst h
    rw [ctimes_zero]
    simp [ctimes_zero]
  · conv => lhs; unfold ctimes
    rw [if_neg h]
theorem dbl_xor (a b : Nat) : 2 * (a ^^^ b) = 2 * a ^^^ 2 * b := by
  apply Nat.eq_of_testBit_eq
  intro i
  cases i with
  | zero => rw [Nat.testBit_xor, Nat.testBit_zero, Nat.testBit_zero, Nat.testBit_zero]; simp
  | succ i =>
    rw [Nat.testBit_xor, Nat.testBit_succ, Nat.testBit_succ, Nat.testBit_succ, ← Nat.testBit_xor]
    congr 1
    simp
theorem ctimes_dbl (a b : Nat) : ctimes (2 * a) b = 2 * ctimes a b := by
  induction b using Nat.strongRecOn generalizing a with
  | ind b ih =>
    by_cases h : b = 0
    · subst h; simp [ctimes_zero]
    · rw [ctimes_rec, @ctimes_rec a b, ih (b / 2) (by omega), dbl_xor]
      split <;> simp
/-- Horner's form -/
theorem ctimes_half (a b : Nat) : ctimes a b = (if b % 2 = 1 then a else 0) ^^^ 2 * ctimes a (b / 2) := by
  rw [ctimes_rec, ctimes_dbl]
theorem xor_half (a b : Nat) : (a ^^^ b) / 2 = a / 2 ^^^ b / 2 := Nat.xor_div_two
theorem ctimes_xor_right (a b c : Nat) : ctimes a (b ^^^ c) = ctimes a b ^^^ ctimes a c := by
  induction b using Nat.strongRecOn generalizing c with
  | ind b ih =>
    by_cases h : b = 0
    · subst h; simp [ctimes_zero]
    · rw [ctimes_half a (b ^^^ c), ctimes_half a b, ctimes_half a c, xor_half, ih (b / 2) (by omega), dbl_xor]
      have e := @Nat.xor_mod_two_eq_one b c
      by_cases hb : b % 2 = 1 <;> by_cases hc : c % 2 = 1 <;> simp only [hb, hc, e, if_true, if_false, iff_true, iff_false, not_true, not_false_iff, iff_self]
      · rw [Nat.zero_xor]
        rw [show a ^^^ 2 * ctimes a (b / 2) ^^^ (a ^^^ 2 * ctimes a (c / 2)) = (a ^^^ a) ^^^ (2 * ctimes a (b / 2) ^^^ 2 * ctimes a (c / 2)) by ac_rfl, Nat.xor_self, Nat.zero_xor]
      · simp; ac_rfl
      · simp; ac_rfl
      · simp
theorem ctimes_xor_left (a b c : Nat) : ctimes (a ^^^ b) c = ctimes a c ^^^ ctimes b c := by
  induction c using Nat.strongRecOn generalizing a b with
  | ind c ih =>
    by_cases h : c = 0
    · subst h; simp [ctimes_zero]
    · rw [ctimes_half (a ^^^ b), ctimes_half a, ctimes_half b, ih (c / 2) (by omega), dbl_xor]
      split
      · ac_rfl
      · simp
theorem ctimes_one (a : Nat) : ctimes a 1 = a := by rw [ctimes_half]; simp [ctimes_zero]
theorem zero_ctimes (a : Nat) : ctimes 0 a = 0 := by
  induction a using Nat.strongRecOn with
  | ind a ih =>
    by_cases h : a = 0
    · subst h; exact ctimes_zero 0
    · rw [ctimes_half, ih (a / 2) (by omega)]; simp
theorem ctimes_pow (a k : Nat) : ctimes a (2 ^ k) = a * 2 ^ k := by
  induction k with
  | zero => simp [ctimes_one]
  | succ k ih =>
    rw [ctimes_half]
    have h1 : 2 ^ (k + 1) % 2 = 0 := by rw [Nat.pow_succ]; omega
    have h2 : 2 ^ (k + 1) / 2 = 2 ^ k := by rw [Nat.pow_succ]; omega
    rw [h1, h2, ih]
    simp
    rw [Nat.pow_succ]; ac_rfl
theorem ctimes_comm (a b : Nat) : ctimes a b = ctimes b a := by
  induction b using Nat.strongRecOn generalizing a with
  | ind b ih =>
    by_cases h : b = 0
    · subst h; rw [ctimes_zero, zero_ctimes]
    · have e : b = (b % 2) ^^^ 2 * (b / 2) := by
        apply Nat.eq_of_testBit_eq
        intro i
        cases i with
        | zero => rw [Nat.testBit_xor, Nat.testBit_zero, Nat.testBit_zero, Nat.testBit_zero]; simp
        | succ i => rw [Nat.testBit_xor, Nat.testBit_succ, Nat.testBit_succ, Nat.testBit_succ]; simp [show b % 2 / 2 = 0 by omega]
      have e2 : ctimes b a = ctimes (b % 2) a ^^^ 2 * ctimes (b / 2) a := by
        conv => lhs; rw [e]
        rw [ctimes_xor_left, ctimes_dbl]
      rw [ctimes_half a b, e2, ih (b / 2) (by omega)]
      congr 1
      have h2 : b % 2 = 0 ∨ b % 2 = 1 := by omega
      rcases h2 with h2 | h2
      · rw [h2]; simp [zero_ctimes]
      · rw [h2, if_pos rfl]
        -- one is neutral from the left
        clear e2 e ih h h2
        induction a using Nat.strongRecOn with
        | ind a ih =>
          by_cases h : a = 0
          · subst h; rw [ctimes_zero]
          · rw [ctimes_half, ← ih (a / 2) (by omega)]
            apply Nat.eq_of_testBit_eq
            intro i
            have h2 : a % 2 = 0 ∨ a % 2 = 1 := by omega
            rcases h2 with h2 | h2
            · rw [h2]; simp
              rw [show 2 * (a / 2) = a by omega]
            · rw [h2, if_pos rfl, Nat.testBit_xor]
              cases i with
              | zero => simp [h2]
              | succ i => rw [Nat.testBit_succ, Nat.testBit_succ, Nat.testBit_succ]; simp
theorem ctimes_assoc (a b c : Nat) : ctimes (ctimes a b) c = ctimes a (ctimes b c) := by
  induction c using Nat.strongRecOn with
  | ind c ih =>
    by_cases h : c = 0
    · subst h; simp [ctimes_zero]
    · rw [ctimes_half _ c, ctimes_half b c, ih (c / 2) (by omega), ctimes_xor_right]
      have : ctimes a (2 * ctimes b (c / 2)) = 2 * ctimes a (ctimes b (c / 2)) := by
        rw [ctimes_comm a, ctimes_dbl, ctimes_comm a]
      rw [this]
      split
      · rfl
      · rw [ctimes_zero]
end Vc
end
section
set_option autoImplicit false
namespace Vc
theorem bl_xor_ne {a b : Nat} (h : bl a < bl b) : bl (a ^^^ b) = bl b := by
  have hb : b ≠ 0 := by rintro rfl; rw [bl_zero] at h; omega
  have h1 : bl (a ^^^ b) ≤ bl b := bl_le.mpr (Nat.xor_lt_two_pow (Nat.lt_of_lt_of_le (bl_le.mp (Nat.le_refl (bl a))) (Nat.pow_le_pow_right (by decide) (by omega))) (bl_le.mp (Nat.le_refl _)))
  have h2 : bl b - 1 < bl (a ^^^ b) := by
    rw [lt_bl]
    apply Nat.ge_two_pow_of_testBit
    rw [Nat.testBit_xor, testBit_top hb, testBit_bl (by omega)]; rfl
  have := bl_pos.mpr hb
  omega
theorem bl_dbl {a : Nat} (h : a ≠ 0) : bl (2 * a) = bl a + 1 := by
  have := bl_shift (k := 1) h
  rw [Nat.pow_one, Nat.mul_comm] at this; exact this
theorem bl_half {a : Nat} (h : 1 < a) : bl (a / 2) + 1 = bl a := by
  have h0 : a / 2 ≠ 0 := by omega
  have e := bl_dbl h0
  have h1 : bl a ≤ bl (2 * (a / 2)) := bl_le.mpr (by
    have := bl_le.mp (Nat.le_refl (bl (2 * (a / 2))))
    have e2 : 2 ^ bl (2 * (a / 2)) = 2 * 2 ^ bl (a / 2) := by rw [e, Nat.pow_succ]; omega
    omega)
  have h2 : bl (2 * (a / 2)) ≤ bl a := bl_le.mpr (Nat.lt_of_le_of_lt (by omega) (bl_le.mp (Nat.le_refl _)))
  omega
theorem ctimes_ne {a b : Nat} (ha : a ≠ 0) (hb : b ≠ 0) : ctimes a b ≠ 0 ∧ bl (ctimes a b) + 1 = bl a + bl b := by
  induction b using Nat.strongRecOn with
  | ind b ih =>
    by_cases h1 : b = 1
    · subst h1; rw [ctimes_one]; exact ⟨ha, rfl⟩
    · have hb1 : 1 < b := by omega
      obtain ⟨i1, i2⟩ := ih (b / 2) (by omega) (by omega)
      have e := bl_half hb1
      have e2 := bl_dbl i1
      have hpb : bl (b / 2) ≠ 0 := by have := bl_pos.mpr (show b / 2 ≠ 0 by omega); omega
      have hlt : bl (if b % 2 = 1 then a else 0) < bl (2 * ctimes a (b / 2)) := by
        split
        · omega
        · rw [bl_zero]; omega
      have e3 := bl_xor_ne hlt
      rw [← ctimes_half] at e3
      refine ⟨?_, by omega⟩
      intro h0
      rw [h0, bl_zero] at e3; omega
theorem ctimes_eq_zero {a b : Nat} (h : ctimes a b = 0) : a = 0 ∨ b = 0 := by
  by_cases ha : a = 0
  · exact .inl ha
  · by_cases hb : b = 0
    · exact .inr hb
    · exact ((ctimes_ne ha hb).1 h).elim
theorem prest_bl {p : Nat} (hp : p ≠ 0) (v : Nat) : bl (prest v p) < bl p := by
  induction hn : bl v using Nat.strongRecOn generalizing v with
  | ind n ih =>
    unfold prest
    split
    · rename_i h
      have hv : v ≠ 0 := by
        rintro rfl
        have := bl_pos.mpr hp
        rw [bl_zero] at h; omega
      exact ih _ (by rw [← hn]; exact bl_xor_lt (by rw [bl_shift hp]; omega) hv) _ rfl
    · rename_i h
      simp only [not_and, Decidable.not_not] at h
      by_cases hh : bl p ≤ bl v
      · exact (hp (h hh)).elim
      · omega
theorem xor_cancel (a b : Nat) : a ^^^ (a ^^^ b) = b := by rw [← Nat.xor_assoc, Nat.xor_self, Nat.zero_xor]
theorem pshare_bl {p : Nat} (hp : p ≠ 0) (v : Nat) : bl (pshare v p) ≤ bl v + 1 - bl p := by
  induction hn : bl v using Nat.strongRecOn generalizing v with
  | ind n ih =>
    unfold pshare
    split
    · rename_i h
      have hv : v ≠ 0 := by
        rintro rfl
        have := bl_pos.mpr hp
        rw [bl_zero] at h; omega
      have hlt := bl_xor_lt (a := v) (b := p * 2 ^ (bl v - bl p)) (by rw [bl_shift hp]; omega) hv
      have := ih _ (by rw [← hn]; exact hlt) _ rfl
      refine bl_le.mpr (Nat.or_lt_two_pow ?_ ?_)
      · exact Nat.pow_lt_pow_right (by decide) (by omega)
      · exact bl_le.mp (by omega)
    · simp [bl_zero]
theorem or_xor {a b : Nat} (h : a &&& b = 0) : (a ||| b) = a ^^^ b := by
  apply Nat.eq_of_testBit_eq
  intro i
  have := congrArg (fun x => x.testBit i) h
  simp only [Nat.testBit_and, Nat.zero_testBit] at this
  rw [Nat.testBit_or, Nat.testBit_xor]
  cases h1 : a.testBit i <;> cases h2 : b.testBit i <;> simp_all
/-- long division -/
theorem pdiv {p : Nat} (hp : p ≠ 0) (v : Nat) : v = ctimes (pshare v p) p ^^^ prest v p := by
  induction hn : bl v using Nat.strongRecOn generalizing v with
  | ind n ih =>
    unfold prest pshare
    split
    · rename_i h
      have hv : v ≠ 0 := by
        rintro rfl
        have := bl_pos.mpr hp
        rw [bl_zero] at h; omega
      have hlt := bl_xor_lt (a := v) (b := p * 2 ^ (bl v - bl p)) (by rw [bl_shift hp]; omega) hv
      have e := ih _ (by rw [← hn]; exact hlt) _ rfl
      have hs := pshare_bl hp (v ^^^ p * 2 ^ (bl v - bl p))
      have hd : 2 ^ (bl v - bl p) &&& pshare (v ^^^ p * 2 ^ (bl v - bl p)) p = 0 := by
        apply Nat.eq_of_testBit_eq
        intro i
        rw [Nat.testBit_and, Nat.zero_testBit, Nat.testBit_two_pow]
        by_cases hi : bl v - bl p = i
        · rw [testBit_bl (n := pshare _ p) (i := i) (by omega)]; simp
        · simp [hi]
      rw [or_xor hd, ctimes_xor_left, ctimes_comm (2 ^ _), ctimes_pow, Nat.xor_assoc, ← e, Nat.xor_comm v, xor_cancel]
    · rw [zero_ctimes, Nat.zero_xor]
/-- there is but one way to divide -/
theorem pdiv_unique {p q q' r r' : Nat} (hr : bl r < bl p) (hr' : bl r' < bl p) (h : ctimes q p ^^^ r = ctimes q' p ^^^ r') : q = q' ∧ r = r' := by
  have e : ctimes (q ^^^ q') p = r ^^^ r' := by
    rw [ctimes_xor_left]
    have : ctimes q p ^^^ ctimes q' p = (ctimes q p ^^^ r) ^^^ (ctimes q' p ^^^ r) := by
      rw [show (ctimes q p ^^^ r) ^^^ (ctimes q' p ^^^ r) = (ctimes q p ^^^ ctimes q' p) ^^^ (r ^^^ r) by ac_rfl, Nat.xor_self, Nat.xor_zero]
    rw [this, h, show (ctimes q' p ^^^ r') ^^^ (ctimes q' p ^^^ r) = (ctimes q' p ^^^ ctimes q' p) ^^^ (r ^^^ r') by ac_rfl, Nat.xor_self, Nat.zero_xor]
  have hp : p ≠ 0 := by rintro rfl; rw [bl_zero] at hr; omega
  have hb : bl (r ^^^ r') < bl p := by
    have : bl (r ^^^ r') ≤ bl p - 1 := bl_le.mpr (Nat.xor_lt_two_pow (bl_le.mp (by omega)) (bl_le.mp (by omega)))
    omega
  by_cases hq : q ^^^ q' = 0
  · rw [hq, zero_ctimes] at e
    exact ⟨by
      have := xor_cancel q q'
      rw [hq, Nat.xor_zero] at this; exact this, by
      have := xor_cancel r r'
      rw [← e, Nat.xor_zero] at this; exact this⟩
  · have := (ctimes_ne hq hp).2
    rw [e] at this
    have := bl_pos.mpr hq
    omega
theorem prest_unique {p v q r : Nat} (hr : bl r < bl p) (h : v = ctimes q p ^^^ r) : prest v p = r ∧ pshare v p = q := by
  have hp : p ≠ 0 := by rintro rfl; rw [bl_zero] at hr; omega
  have := pdiv_unique (prest_bl hp v) hr ((pdiv hp v).symm.trans h)
  exact ⟨this.2, this.1⟩
theorem prest_xor {p : Nat} (hp : p ≠ 0) (a b : Nat) : prest (a ^^^ b) p = prest a p ^^^ prest b p := by
  refine (prest_unique (q := pshare a p ^^^ pshare b p) ?_ ?_).1
  · have h1 := prest_bl hp a
    have h2 := prest_bl hp b
    have := bl_le.mpr (Nat.xor_lt_two_pow (bl_le.mp (show bl (prest a p) ≤ bl p - 1 by omega)) (bl_le.mp (show bl (prest b p) ≤ bl p - 1 by omega)))
    omega
  · conv => lhs; rw [pdiv hp a, pdiv hp b]
    rw [ctimes_xor_left]; ac_rfl
theorem prest_times {p : Nat} (hp : p ≠ 0) (a b : Nat) : prest (ctimes a (prest b p)) p = prest (ctimes a b) p := by
  refine (prest_unique (prest_bl hp _) ?_ (q := pshare (ctimes a b) p ^^^ ctimes a (pshare b p))).1
  have e : ctimes a b = ctimes (ctimes a (pshare b p)) p ^^^ ctimes a (prest b p) := by
    conv => lhs; rw [pdiv hp b]
    rw [ctimes_xor_right, ctimes_assoc]
  rw [ctimes_xor_left]
  have e2 := pdiv hp (ctimes a b)
  have : ctimes a (prest b p) = ctimes (ctimes a (pshare b p)) p ^^^ ctimes a b := by rw [e, xor_cancel]
  rw [this, show ctimes (pshare (ctimes a b) p) p ^^^ ctimes (ctimes a (pshare b p)) p ^^^ prest (ctimes a b) p = ctimes (ctimes a (pshare b p)) p ^^^ (ctimes (pshare (ctimes a b) p) p ^^^ prest (ctimes a b) p) by ac_rfl, ← e2]
theorem prest_self {p : Nat} (hp : p ≠ 0) {v : Nat} (h : bl v < bl p) : prest v p = v := (prest_unique (q := 0) h (by rw [zero_ctimes, Nat.zero_xor])).1
theorem prest_mult {p : Nat} (hp : p ≠ 0) (q : Nat) : prest (ctimes q p) p = 0 := (prest_unique (q := q) (by rw [bl_zero]; exact bl_pos.mpr hp) (by rw [Nat.xor_zero])).1
theorem prest_idem {p : Nat} (hp : p ≠ 0) (v : Nat) : prest (prest v p) p = prest v p := prest_self hp (prest_bl hp v)
end Vc
end
section
set_option autoImplicit false
namespace Vc
def pdvd (d v : Nat) : Prop := ∃ q, v = ctimes q d
theorem pdvd_zero (d : Nat) : pdvd d 0 := ⟨0, (zero_ctimes d).symm⟩
theorem pdvd_refl (d : Nat) : pdvd d d := ⟨1, by rw [ctimes_comm, ctimes_one]⟩
theorem pdvd_xor {d a b : Nat} (h1 : pdvd d a) (h2 : pdvd d b) : pdvd d (a ^^^ b) := by
  obtain ⟨q, rfl⟩ := h1
  obtain ⟨r, rfl⟩ := h2
  exact ⟨q ^^^ r, by rw [ctimes_xor_left]⟩
theorem pdvd_times {d a : Nat} (c : Nat) (h : pdvd d a) : pdvd d (ctimes c a) := by
  obtain ⟨q, rfl⟩ := h
  exact ⟨ctimes c q, by rw [ctimes_assoc]⟩
theorem pdvd_trans {d e a : Nat} (h1 : pdvd d e) (h2 : pdvd e a) : pdvd d a := by
  obtain ⟨q, rfl⟩ := h2
  exact pdvd_times q h1
theorem pdvd_xor_iff {d a b : Nat} (h : pdvd d b) : pdvd d (a ^^^ b) ↔ pdvd d a := by
  refine ⟨fun h1 => ?_, fun h1 => pdvd_xor h1 h⟩
  have := pdvd_xor h1 h
  rwa [Nat.xor_assoc, Nat.xor_self, Nat.xor_zero] at this
theorem pdvd_iff {p : Nat} (hp : p ≠ 0) (v : Nat) : pdvd p v ↔ prest v p = 0 := by
  refine ⟨fun ⟨q, e⟩ => by rw [e, prest_mult hp], fun h => ⟨pshare v p, ?_⟩⟩
  have := pdiv hp v
  rwa [h, Nat.xor_zero] at this
theorem xor_eq_zero {a b : Nat} (h : a ^^^ b = 0) : a = b := by
  have := xor_cancel a b
  rw [h, Nat.xor_zero] at this; exact this
theorem ctimes_cancel {a b c : Nat} (hc : c ≠ 0) (h : ctimes a c = ctimes b c) : a = b := by
  have e : ctimes (a ^^^ b) c = 0 := by rw [ctimes_xor_left, h, Nat.xor_self]
  rcases ctimes_eq_zero e with e | e
  · exact xor_eq_zero e
  · exact (hc e).elim
theorem pdvd_cancel {a b c : Nat} (hc : c ≠ 0) : pdvd (ctimes a c) (ctimes b c) ↔ pdvd a b := by
  constructor
  · rintro ⟨q, e⟩
    rw [← ctimes_assoc] at e
    exact ⟨q, ctimes_cancel hc e⟩
  · rintro ⟨q, rfl⟩
    exact ⟨q, by rw [ctimes_assoc]⟩
theorem mul_pow_eq (y s : Nat) : y * 2 ^ s = ctimes (2 ^ s) y := by rw [ctimes_comm, ctimes_pow]
def emeas (a b : Nat) : Nat := 2 * (bl a + bl b) + (if bl a < bl b then 1 else 0)
/-- Euclid: a greatest common divisor, and a share of a in it, modulo p -/
theorem peucl_ok {a0 p : Nat} (m : Nat) : ∀ (x y u w : Nat), emeas x y ≤ m → pdvd p (x ^^^ ctimes u a0) → pdvd p (y ^^^ ctimes w a0) →
    pdvd p ((peucl x y u w).1 ^^^ ctimes (peucl x y u w).2 a0) ∧ ∀ d, pdvd d (peucl x y u w).1 ↔ pdvd d x ∧ pdvd d y := by
  induction m with
  | zero =>
    intro x y u w hm h1 h2
    have hy : y = 0 := by
      have : bl y = 0 := by unfold emeas at hm; omega
      by_cases e : y = 0
      · exact e
      · have := bl_pos.mpr e; omega
    subst hy
    unfold peucl
    rw [dif_pos rfl]
    exact ⟨h1, fun d => ⟨fun h => ⟨h, pdvd_zero d⟩, fun h => h.1⟩⟩
  | succ m ih =>
    intro x y u w hm h1 h2
    unfold peucl
    by_cases hy : y = 0
    · subst hy
      rw [dif_pos rfl]
      exact ⟨h1, fun d => ⟨fun h => ⟨h, pdvd_zero d⟩, fun h => h.1⟩⟩
    · rw [dif_neg hy]
      by_cases hs : bl x < bl y
      · rw [dif_pos hs]
        obtain ⟨i1, i2⟩ := ih y x w u (by unfold emeas at hm ⊢; rw [if_pos hs] at hm; rw [if_neg (by omega)]; omega) h2 h1
        exact ⟨i1, fun d => (i2 d).trans and_comm⟩
      · rw [dif_neg hs]
        have hyp := bl_pos.mpr hy
        have hx0 : x ≠ 0 := by rintro rfl; rw [bl_zero] at hs; omega
        have hlt : bl (x ^^^ y * 2 ^ (bl x - bl y)) < bl x := bl_xor_lt (by rw [bl_shift hy]; omega) hx0
        obtain ⟨i1, i2⟩ := ih (x ^^^ y * 2 ^ (bl x - bl y)) y (u ^^^ w * 2 ^ (bl x - bl y)) w (by
          unfold emeas at hm ⊢; rw [if_neg hs] at hm; split <;> omega) (by
          rw [mul_pow_eq, mul_pow_eq, ctimes_xor_left, ctimes_assoc]
          have := pdvd_xor h1 (pdvd_times (2 ^ (bl x - bl y)) h2)
          rw [ctimes_xor_right] at this
          rw [show x ^^^ ctimes (2 ^ (bl x - bl y)) y ^^^ (ctimes u a0 ^^^ ctimes (2 ^ (bl x - bl y)) (ctimes w a0)) = x ^^^ ctimes u a0 ^^^ (ctimes (2 ^ (bl x - bl y)) y ^^^ ctimes (2 ^ (bl x - bl y)) (ctimes w a0)) by ac_rfl]
          exact this) h2
        refine ⟨i1, fun d => (i2 d).trans ?_⟩
        constructor
        · rintro ⟨j1, j2⟩
          refine ⟨(pdvd_xor_iff ?_).mp j1, j2⟩
          rw [mul_pow_eq]; exact pdvd_times _ j2
        · rintro ⟨j1, j2⟩
          refine ⟨pdvd_xor j1 ?_, j2⟩
          rw [mul_pow_eq]; exact pdvd_times _ j2

/-- the one class of law 2 -/
theorem class_ok {A p g f kept plain share left right : Nat} (hp : p ≠ 0) (hg : (g, f) = peucl (prest A p) p 1 0) (hk : kept = pshare p g) (hs : share = pshare plain g) (hl : left = prest plain g) (hr : right = prest (ctimes f share) kept) :
    g ≠ 0 ∧ kept ≠ 0 ∧ p = ctimes kept g ∧ ∀ S, prest (ctimes S A ^^^ plain) p = 0 ↔ left = 0 ∧ prest (S ^^^ right) kept = 0 := by
  have hA : pdvd p (A ^^^ prest A p) := ⟨pshare A p, by
    conv => lhs; arg 1; rw [pdiv hp A]
    rw [Nat.xor_assoc, Nat.xor_self, Nat.xor_zero]⟩
  obtain ⟨e1, e2⟩ := peucl_ok (a0 := prest A p) (p := p) _ (prest A p) p 1 0 (Nat.le_refl _) (by rw [ctimes_comm, ctimes_one, Nat.xor_self]; exact pdvd_zero p) (by rw [zero_ctimes, Nat.xor_zero]; exact pdvd_refl p)
  rw [← hg] at e1 e2
  simp only at e1 e2
  obtain ⟨hgA, hgp⟩ := (e2 g).mp (pdvd_refl g)
  have hg0 : g ≠ 0 := by
    rintro rfl
    obtain ⟨q, e⟩ := hgp
    rw [ctimes_zero] at e; exact hp e
  have hpk : p = ctimes kept g := by
    have := pdiv hg0 p
    rw [(pdvd_iff hg0 p).mp hgp, Nat.xor_zero, ← hk] at this; exact this
  have hk0 : kept ≠ 0 := by
    rintro rfl
    rw [zero_ctimes] at hpk; exact hp hpk
  refine ⟨hg0, hk0, hpk, fun S => ?_⟩
  have hgA' : pdvd g A := by
    have : pdvd g (A ^^^ prest A p) := pdvd_trans hgp hA
    exact (pdvd_xor_iff hgA).mp this
  obtain ⟨A1, hA1⟩ := hgA'
  have hplain := pdiv hg0 plain
  rw [← hs, ← hl] at hplain
  -- f A = g modulo p
  have hfA : pdvd p (g ^^^ ctimes f A) := by
    have h1 := pdvd_xor e1 (pdvd_times f hA)
    rw [ctimes_xor_right] at h1
    rw [show g ^^^ ctimes f (prest A p) ^^^ (ctimes f A ^^^ ctimes f (prest A p)) = g ^^^ ctimes f A ^^^ (ctimes f (prest A p) ^^^ ctimes f (prest A p)) by ac_rfl, Nat.xor_self, Nat.xor_zero] at h1
    exact h1
  have hf1 : pdvd kept (1 ^^^ ctimes f A1) := by
    have : g ^^^ ctimes f A = ctimes (1 ^^^ ctimes f A1) g := by
      rw [hA1, ctimes_xor_left, ← ctimes_assoc, ctimes_comm 1, ctimes_one]
    rw [this, hpk] at hfA
    exact (pdvd_cancel hg0).mp hfA
  rw [← pdvd_iff hp, ← pdvd_iff hk0]
  have hright : pdvd kept (right ^^^ ctimes f share) := by
    rw [hr]
    refine ⟨pshare (ctimes f share) kept, ?_⟩
    have := pdiv hk0 (ctimes f share)
    conv => lhs; rw [Nat.xor_comm]; arg 1; rw [this]
    rw [Nat.xor_assoc, Nat.xor_self, Nat.xor_zero]
  constructor
  · intro h
    have hl0 : left = 0 := by
      rw [hl]
      refine (pdvd_iff hg0 plain).mp ?_
      have h1 : pdvd g (ctimes S A ^^^ plain) := pdvd_trans hgp h
      rw [Nat.xor_comm] at h1
      exact (pdvd_xor_iff (pdvd_times S ⟨A1, hA1⟩)).mp h1
    refine ⟨hl0, ?_⟩
    rw [hl0, Nat.xor_zero] at hplain
    have h2 : pdvd kept (ctimes S A1 ^^^ share) := by
      have : ctimes S A ^^^ plain = ctimes (ctimes S A1 ^^^ share) g := by
        rw [hA1, hplain, ctimes_xor_left, ← ctimes_assoc]
      rw [this, hpk] at h
      exact (pdvd_cancel hg0).mp h
    -- S = f A1 S = f share
    have h3 := pdvd_times f h2
    rw [ctimes_xor_right] at h3
    have h4 := pdvd_times S hf1
    rw [ctimes_xor_right, ctimes_one] at h4
    have h5 : ctimes S (ctimes f A1) = ctimes f (ctimes S A1) := by rw [← ctimes_assoc, ← ctimes_assoc, ctimes_comm S f]
    rw [h5] at h4
    have h6 := pdvd_xor (pdvd_xor h3 h4) hright
    rw [show ctimes f (ctimes S A1) ^^^ ctimes f share ^^^ (S ^^^ ctimes f (ctimes S A1)) ^^^ (right ^^^ ctimes f share) = S ^^^ right ^^^ (ctimes f (ctimes S A1) ^^^ ctimes f (ctimes S A1)) ^^^ (ctimes f share ^^^ ctimes f share) by ac_rfl, Nat.xor_self, Nat.xor_self, Nat.xor_zero, Nat.xor_zero] at h6
    exact h6
  · rintro ⟨hl0, h⟩
    rw [hl0, Nat.xor_zero] at hplain
    have : ctimes S A ^^^ plain = ctimes (ctimes S A1 ^^^ share) g := by
      rw [hA1, hplain, ctimes_xor_left, ← ctimes_assoc]
    rw [this, hpk]
    refine (pdvd_cancel hg0).mpr ?_
    -- S = f share
    have h1 := pdvd_xor h hright
    rw [show S ^^^ right ^^^ (right ^^^ ctimes f share) = S ^^^ ctimes f share ^^^ (right ^^^ right) by ac_rfl, Nat.xor_self, Nat.xor_zero] at h1
    have h2 := pdvd_times A1 h1
    have h3 := pdvd_times share hf1
    rw [ctimes_xor_right] at h2 h3
    rw [ctimes_one] at h3
    have e5 : ctimes A1 (ctimes f share) = ctimes share (ctimes f A1) := by rw [ctimes_comm f share, ← ctimes_assoc, ctimes_comm A1 share, ctimes_assoc, ctimes_comm A1 f]
    rw [e5] at h2
    have h6 := pdvd_xor h2 h3
    rw [show ctimes A1 S ^^^ ctimes share (ctimes f A1) ^^^ (share ^^^ ctimes share (ctimes f A1)) = ctimes A1 S ^^^ share ^^^ (ctimes share (ctimes f A1) ^^^ ctimes share (ctimes f A1)) by ac_rfl, Nat.xor_self, Nat.xor_zero, ctimes_comm A1 S] at h6
    exact h6
end Vc
end
section
set_option autoImplicit false
namespace Vc
theorem prev_xor (n a b : Nat) : prev n (a ^^^ b) = prev n a ^^^ prev n b := by
  apply Nat.eq_of_testBit_eq
  intro i
  rw [Nat.testBit_xor, prev_bit, prev_bit, prev_bit, Nat.testBit_xor]
  cases decide (i < n) <;> simp
theorem prev_even {m v : Nat} (h : v % 2 = 0) : prev m (v / 2) = prev (m + 1) v := by
  apply Nat.eq_of_testBit_eq
  intro i
  rw [prev_bit, prev_bit, Nat.testBit_div_two]
  by_cases hi : i < m
  · simp only [hi, decide_true, Bool.true_and, show i < m + 1 by omega]
    congr 1; omega
  · by_cases h2 : i = m
    · subst h2
      simp [h]
    · simp [hi, show ¬ i < m + 1 by omega]
theorem prev_shift {n k a : Nat} (h : a < 2 ^ n) : prev (n + k) (prev n a) = a * 2 ^ k := by
  apply Nat.eq_of_testBit_eq
  intro i
  rw [prev_bit, prev_bit, Nat.testBit_mul_two_pow]
  by_cases h1 : i < n + k
  · by_cases h2 : k ≤ i
    · simp only [h1, decide_true, Bool.true_and, show n + k - 1 - i < n by omega, h2]
      congr 1; omega
    · simp [h1, h2, show ¬ (n + k - 1 - i < n) by omega]
  · simp only [h1, decide_false, Bool.false_and]
    rw [Nat.testBit_lt_two_pow (Nat.lt_of_lt_of_le h (Nat.pow_le_pow_right (by decide) (show n ≤ i - k by omega)))]
    simp
theorem prev_shift2 {n k a : Nat} (h : a < 2 ^ n) : prev (n + k) a = prev n a * 2 ^ k := by
  have := prev_shift (k := k) (prev_lt n a)
  rw [prev_prev h] at this; exact this
theorem prev_low {n k a : Nat} : prev (n + k) (a * 2 ^ k) = prev n a := by
  apply Nat.eq_of_testBit_eq
  intro i
  rw [prev_bit, prev_bit, Nat.testBit_mul_two_pow]
  by_cases h1 : i < n
  · simp only [h1, show i < n + k by omega, decide_true, Bool.true_and, show k ≤ n + k - 1 - i by omega]
    congr 1; omega
  · by_cases h2 : i < n + k
    · simp [h1, h2, show ¬ (k ≤ n + k - 1 - i) by omega]
    · simp [h1, h2]

/-- one step of the turned division -/
def bstep (o v : Nat) : Nat := (if v % 2 = 1 then v ^^^ o else v) / 2
def biter (o : Nat) : Nat → Nat → Nat
  | 0, v => v
  | k + 1, v => biter o k (bstep o v)
theorem biter_add (o a b v : Nat) : biter o (a + b) v = biter o b (biter o a v) := by
  induction a generalizing v with
  | zero => simp [biter]
  | succ a ih => rw [Nat.succ_add]; exact ih _
theorem bstep_xor {o : Nat} (ho : o % 2 = 1) (a b : Nat) : bstep o (a ^^^ b) = bstep o a ^^^ bstep o b := by
  have e := @Nat.xor_mod_two_eq_one a b
  unfold bstep
  by_cases ha : a % 2 = 1 <;> by_cases hb : b % 2 = 1 <;> simp only [ha, hb, e, if_true, if_false, iff_true, iff_false, not_true, not_false_iff] <;> rw [← xor_half]
  · rw [show a ^^^ o ^^^ (b ^^^ o) = a ^^^ b ^^^ (o ^^^ o) by ac_rfl, Nat.xor_self, Nat.xor_zero]
  · rw [show a ^^^ o ^^^ b = a ^^^ b ^^^ o by ac_rfl]
  · rw [Nat.xor_assoc]
theorem biter_xor {o : Nat} (ho : o % 2 = 1) (k a b : Nat) : biter o k (a ^^^ b) = biter o k a ^^^ biter o k b := by
  induction k generalizing a b with
  | zero => rfl
  | succ k ih => rw [biter, bstep_xor ho, ih]; rfl
theorem biter_shift {o : Nat} (k a : Nat) : biter o k (a * 2 ^ k) = a := by
  induction k generalizing a with
  | zero => simp [biter]
  | succ k ih =>
    have e : bstep o (a * 2 ^ (k + 1)) = a * 2 ^ k := by
      unfold bstep
      rw [Nat.pow_succ, ← Nat.mul_assoc, if_neg (by omega)]
      omega
    rw [biter, e, ih]
theorem biter_prev {P n : Nat} (hP : bl P = n + 1) : ∀ (k v : Nat), v < 2 ^ (n + k) → prev n (biter (prev (n + 1) P) k v) = prest (prev (n + k) v) P ∧ biter (prev (n + 1) P) k v < 2 ^ n
  | 0, v, h => by
    have hp : P ≠ 0 := by rintro rfl; rw [bl_zero] at hP; omega
    refine ⟨?_, h⟩
    rw [prest_self hp (by rw [hP]; have := bl_le.mpr (prev_lt n v); simp only [Nat.add_zero]; omega)]
    rfl
  | k + 1, v, h => by
    have hp : P ≠ 0 := by rintro rfl; rw [bl_zero] at hP; omega
    have hPl : P < 2 ^ (n + 1) := by have := bl_le.mp (Nat.le_of_eq hP); exact this
    have ho : (prev (n + 1) P) % 2 = 1 := by
      have : (prev (n + 1) P).testBit 0 = true := by
        rw [prev_bit]
        have := testBit_top hp
        rw [hP] at this
        simpa using this
      rw [Nat.testBit_zero] at this
      simpa using this
    have hbs : bstep (prev (n + 1) P) v < 2 ^ (n + k) := by
      unfold bstep
      have e : 2 ^ (n + (k + 1)) = 2 * 2 ^ (n + k) := by rw [← Nat.add_assoc, Nat.pow_succ]; omega
      have hol : prev (n + 1) P < 2 ^ (n + (k + 1)) := Nat.lt_of_lt_of_le (prev_lt _ _) (Nat.pow_le_pow_right (by decide) (by omega))
      split
      · exact Nat.div_lt_of_lt_mul (by rw [← e]; exact Nat.xor_lt_two_pow h hol)
      · exact Nat.div_lt_of_lt_mul (by rw [← e]; exact h)
    obtain ⟨i1, i2⟩ := biter_prev hP k _ hbs
    refine ⟨?_, i2⟩
    rw [biter, i1]
    unfold bstep
    by_cases hv : v % 2 = 1
    · rw [if_pos hv]
      have hev : (v ^^^ prev (n + 1) P) % 2 = 0 := by
        have e : ¬ (v ^^^ prev (n + 1) P) % 2 = 1 := by rw [Nat.xor_mod_two_eq_one]; simp [hv, ho]
        omega
      rw [prev_even hev, prev_xor, show n + k + 1 = (n + 1) + k by omega, prev_shift hPl, prest_xor hp, mul_pow_eq, prest_mult hp, Nat.xor_zero, show n + (k + 1) = n + 1 + k by omega]
    · rw [if_neg hv, prev_even (by omega)]; rfl
end Vc
end
section
set_option autoImplicit false
namespace Vc
theorem add_xor_sum (a b : Nat) : (a ^^^ b) + 2 * (a &&& b) = a + b := by
  induction a using Nat.strongRecOn generalizing b with
  | ind a ih =>
    by_cases h : a = 0
    · subst h; simp
    · have := ih (a / 2) (by omega) (b / 2)
      have e1 := @Nat.xor_div_two a b
      have e2 := @Nat.and_div_two a b
      have e3 := @Nat.xor_mod_two_eq_one a b
      have e4 := @Nat.and_mod_two_eq_one a b
      rw [← e1, ← e2] at this
      omega
theorem and_apart {a b k : Nat} (h : a < 2 ^ k) : a &&& b * 2 ^ k = 0 := by
  apply Nat.eq_of_testBit_eq
  intro i
  rw [Nat.testBit_and, Nat.zero_testBit, Nat.testBit_mul_two_pow]
  by_cases hi : k ≤ i
  · rw [Nat.testBit_lt_two_pow (Nat.lt_of_lt_of_le h (Nat.pow_le_pow_right (by decide) hi))]; simp
  · simp [hi]
theorem add_eq_xor {a b k : Nat} (h : a < 2 ^ k) : a + b * 2 ^ k = a ^^^ b * 2 ^ k := by
  have e := add_xor_sum a (b * 2 ^ k)
  rw [and_apart h] at e
  omega
theorem xor_shl (a b k : Nat) : (a ^^^ b) * 2 ^ k = a * 2 ^ k ^^^ b * 2 ^ k := by rw [mul_pow_eq, mul_pow_eq, mul_pow_eq, ctimes_xor_right]

/-- octets, the least first -/
def lev : List Nat → Nat
  | [] => 0
  | x :: r => x + 256 * lev r
theorem lev_lt : ∀ {D : List Nat}, (∀ x ∈ D, x < 256) → lev D < 2 ^ (8 * D.length)
  | [], _ => by simp [lev]
  | x :: r, h => by
    have h1 := lev_lt (D := r) fun y hy => h y (by simp [hy])
    have h2 := h x (by simp)
    have e : 2 ^ (8 * (r.length + 1)) = 256 * 2 ^ (8 * r.length) := by rw [Nat.mul_add, Nat.pow_add, Nat.mul_comm]
    simp only [lev, List.length_cons]
    rw [e]; omega
theorem lev_append {D E : List Nat} (h : ∀ x ∈ D, x < 256) : lev (D ++ E) = lev D ^^^ lev E * 2 ^ (8 * D.length) := by
  rw [← add_eq_xor (lev_lt h)]
  clear h
  induction D with
  | nil => simp [lev]
  | cons x r ih =>
    have e : 2 ^ (8 * (r.length + 1)) = 256 * 2 ^ (8 * r.length) := by rw [Nat.mul_add, Nat.pow_add, Nat.mul_comm]
    simp only [List.cons_append, lev, List.length_cons, ih, e]
    rw [Nat.mul_add, show lev E * (256 * 2 ^ (8 * r.length)) = 256 * (lev E * 2 ^ (8 * r.length)) by ac_rfl]
    omega
/-- octets as they are sent -/
def msg (back : Bool) (D : List Nat) : Nat := if back then prev (8 * D.length) (lev D) else lev D.reverse
def phi (back : Bool) (n v : Nat) : Nat := if back then prev n v else v
theorem msg_append {back : Bool} {D E : List Nat} (hD : ∀ x ∈ D, x < 256) (hE : ∀ x ∈ E, x < 256) : msg back (D ++ E) = msg back D * 2 ^ (8 * E.length) ^^^ msg back E := by
  cases back with
  | true =>
    show prev (8 * (D ++ E).length) (lev (D ++ E)) = prev (8 * D.length) (lev D) * 2 ^ (8 * E.length) ^^^ prev (8 * E.length) (lev E)
    rw [List.length_append, Nat.mul_add, lev_append hD, prev_xor, prev_shift2 (lev_lt hD), Nat.add_comm (8 * D.length), prev_low]
  | false =>
    show lev (D ++ E).reverse = lev D.reverse * 2 ^ (8 * E.length) ^^^ lev E.reverse
    rw [List.reverse_append, lev_append (by simpa using hE), List.length_reverse, Nat.xor_comm]
theorem msg_lt {back : Bool} {D : List Nat} (h : ∀ x ∈ D, x < 256) : msg back D < 2 ^ (8 * D.length) := by
  cases back with
  | true => exact prev_lt _ _
  | false =>
    have := lev_lt (D := D.reverse) (by simpa using h)
    rw [List.length_reverse] at this
    exact this
/-- the sum's register behind octets -/
def crcv (back : Bool) (P n : Nat) (D : List Nat) (c : Nat) : Nat :=
  if back then biter (prev (n + 1) P) (8 * D.length) (lev D ^^^ c) else prest (lev D.reverse * 2 ^ n ^^^ c * 2 ^ (8 * D.length)) P
theorem phi_phi {back : Bool} {n v : Nat} (h : v < 2 ^ n) : phi back n (phi back n v) = v := by
  cases back with
  | true => exact prev_prev h
  | false => rfl
theorem phi_lt {back : Bool} {n v : Nat} (h : v < 2 ^ n) : phi back n v < 2 ^ n := by
  cases back with
  | true => exact prev_lt n v
  | false => exact h
theorem phi_xor {back : Bool} {n a b : Nat} : phi back n (a ^^^ b) = phi back n a ^^^ phi back n b := by
  cases back with
  | true => exact prev_xor n a b
  | false => rfl
theorem crcv_phi {back : Bool} {P n : Nat} {D : List Nat} {c : Nat} (hP : bl P = n + 1) (hD : ∀ x ∈ D, x < 256) (hc : c < 2 ^ n) :
    phi back n (crcv back P n D c) = prest (msg back D * 2 ^ n ^^^ phi back n c * 2 ^ (8 * D.length)) P ∧ crcv back P n D c < 2 ^ n := by
  have hp : P ≠ 0 := by rintro rfl; rw [bl_zero] at hP; omega
  cases back with
  | true =>
    have hlt : lev D ^^^ c < 2 ^ (n + 8 * D.length) :=
      Nat.xor_lt_two_pow (Nat.lt_of_lt_of_le (lev_lt hD) (Nat.pow_le_pow_right (by decide) (by omega))) (Nat.lt_of_lt_of_le hc (Nat.pow_le_pow_right (by decide) (by omega)))
    obtain ⟨h1, h2⟩ := biter_prev hP (8 * D.length) _ hlt
    refine ⟨?_, h2⟩
    show prev n (biter (prev (n + 1) P) (8 * D.length) (lev D ^^^ c)) = prest (prev (8 * D.length) (lev D) * 2 ^ n ^^^ prev n c * 2 ^ (8 * D.length)) P
    rw [h1, prev_xor, prev_shift2 hc, Nat.add_comm n, prev_shift2 (lev_lt hD)]
  | false =>
    refine ⟨rfl, ?_⟩
    have := prest_bl hp (lev D.reverse * 2 ^ n ^^^ c * 2 ^ (8 * D.length))
    exact bl_le.mp (by show bl (prest _ P) ≤ n; omega)
theorem prest_shift {P : Nat} (hp : P ≠ 0) (a k : Nat) : prest (prest a P * 2 ^ k) P = prest (a * 2 ^ k) P := by
  rw [mul_pow_eq, prest_times hp, ← mul_pow_eq]
theorem crcv_append {back : Bool} {P n : Nat} {D E : List Nat} {c : Nat} (hP : bl P = n + 1) (hD : ∀ x ∈ D, x < 256) (hE : ∀ x ∈ E, x < 256) (hc : c < 2 ^ n) :
    crcv back P n (D ++ E) c = crcv back P n E (crcv back P n D c) := by
  have hp : P ≠ 0 := by rintro rfl; rw [bl_zero] at hP; omega
  have hDE : ∀ x ∈ D ++ E, x < 256 := fun x hx => (List.mem_append.mp hx).elim (hD x) (hE x)
  obtain ⟨a1, a2⟩ := crcv_phi (back := back) hP hDE hc
  obtain ⟨b1, b2⟩ := crcv_phi (back := back) hP hD hc
  obtain ⟨c1, c2⟩ := crcv_phi (back := back) hP hE b2
  have : phi back n (crcv back P n (D ++ E) c) = phi back n (crcv back P n E (crcv back P n D c)) := by
    rw [a1, c1, b1, msg_append hD hE, prest_xor hp, prest_xor hp, xor_shl, prest_shift hp, xor_shl, prest_xor hp, prest_xor hp, List.length_append, Nat.mul_add, Nat.pow_add]
    rw [show msg back D * 2 ^ (8 * E.length) * 2 ^ n = msg back D * 2 ^ n * 2 ^ (8 * E.length) by ac_rfl, show phi back n c * (2 ^ (8 * D.length) * 2 ^ (8 * E.length)) = phi back n c * 2 ^ (8 * D.length) * 2 ^ (8 * E.length) by ac_rfl]
    ac_rfl
  have h2 := congrArg (phi back n) this
  rwa [phi_phi a2, phi_phi c2] at h2
end Vc
end
section
set_option autoImplicit false
namespace Vc
theorem split_pow (c k : Nat) : c = (c % 2 ^ k) ^^^ (c / 2 ^ k) * 2 ^ k := by
  rw [← add_eq_xor (Nat.mod_lt _ (Nat.two_pow_pos k))]
  have := Nat.mod_add_div c (2 ^ k)
  rw [Nat.mul_comm] at this; omega
/-- one octet by the table -/
theorem step_big {P n c x t : Nat} (hP : bl P = n + 1) (h8 : 8 ≤ n) (ht : t = prest ((x ^^^ c / 2 ^ (n - 8)) * 2 ^ n) P) :
    t ^^^ (c % 2 ^ (n - 8)) * 2 ^ 8 = crcv false P n [x] c := by
  have hp : P ≠ 0 := by rintro rfl; rw [bl_zero] at hP; omega
  show _ = prest (lev [x] * 2 ^ n ^^^ c * 2 ^ (8 * 1)) P
  have e : c * 2 ^ 8 = (c % 2 ^ (n - 8)) * 2 ^ 8 ^^^ (c / 2 ^ (n - 8)) * 2 ^ n := by
    conv => lhs; rw [split_pow c (n - 8)]
    rw [xor_shl, Nat.mul_assoc, ← Nat.pow_add, show n - 8 + 8 = n by omega]
  have hlo : prest ((c % 2 ^ (n - 8)) * 2 ^ 8) P = (c % 2 ^ (n - 8)) * 2 ^ 8 := by
    refine prest_self hp ?_
    have : (c % 2 ^ (n - 8)) * 2 ^ 8 < 2 ^ n := by
      have h1 := Nat.mod_lt c (Nat.two_pow_pos (n - 8))
      have h2 : 2 ^ (n - 8) * 2 ^ 8 = 2 ^ n := by rw [← Nat.pow_add]; congr 1; omega
      rw [← h2]; exact Nat.mul_lt_mul_of_pos_right h1 (by decide)
    have := bl_le.mpr this
    omega
  simp only [lev, Nat.mul_zero, Nat.add_zero, Nat.mul_one]
  rw [e, prest_xor hp, prest_xor hp, hlo, ht, xor_shl, prest_xor hp]
  ac_rfl
theorem step_little {P n c x t : Nat} (ht : t = biter (prev (n + 1) P) 8 (x ^^^ c % 256)) (ho : prev (n + 1) P % 2 = 1) :
    t ^^^ c / 2 ^ 8 = crcv true P n [x] c := by
  show _ = biter (prev (n + 1) P) (8 * 1) (lev [x] ^^^ c)
  have e : x ^^^ c = (x ^^^ c % 2 ^ 8) ^^^ (c / 2 ^ 8) * 2 ^ 8 := by
    conv => lhs; rw [split_pow c 8]
    rw [Nat.xor_assoc]
  simp only [lev, Nat.mul_zero, Nat.add_zero, Nat.mul_one]
  rw [e, biter_xor ho, biter_shift, ht]
end Vc
end
section
open PySem PySem.W PyProof.Rows PySem.Calls
set_option autoImplicit false
namespace Vc

def x_View_tobytes : Ss := (.cons
  (.ret (.attr (.var 0) 8)) .nil)
def nm_View_tobytes : List (Str × Nat) := [((Str.ofString "self"), 0)]
abbrev nv_View_tobytes : Nat := 1
def ps_View_tobytes : List Str := [(Str.ofString "self")]

def x_get_buffer_view : Ss := (.cons
  (.ite (.call (.glob 101) (.cons (.var 0) (.cons (.glob 104) .nil))) (.cons
  .bad .nil) .nil) (.cons
  (.set 1 (.call (.glob 111) .nil)) (.cons
  (.setA (.var 1) 8 (.bmeth .join (.lit (.bytes [])) (.cons (.list false (.cons (.var 0) .nil)) .nil))) (.cons
  (.ret (.var 1)) .nil))))
def nm_get_buffer_view : List (Str × Nat) := [((Str.ofString "in_obj"), 0), ((Str.ofString "mv"), 1)]
abbrev nv_get_buffer_view : Nat := 2
def ps_get_buffer_view : List Str := [(Str.ofString "in_obj")]

def x_crc8 : Ss := (.cons
  (.set 3 (.call (.glob 0) (.cons (.var 0) .nil))) (.cons
  (.set 1 (.bin .BitAnd (.var 1) (.lit (.int 255)))) (.cons
  (.fr [4] (.meth 4 (.var 3) .nil) (.cons
  (.set 1 (.sub (.var 2) (.bin .BitXor (.var 4) (.var 1)))) .nil)) (.cons
  (.ret (.var 1)) .nil))))
def nm_crc8 : List (Str × Nat) := [((Str.ofString "data"), 0), ((Str.ofString "crc"), 1), ((Str.ofString "table"), 2), ((Str.ofString "mv"), 3), ((Str.ofString "x"), 4)]
abbrev nv_crc8 : Nat := 5
def ps_crc8 : List Str := [(Str.ofString "data"), (Str.ofString "crc"), (Str.ofString "table")]

def x_crc8r : Ss := (.cons
  (.set 3 (.call (.glob 0) (.cons (.var 0) .nil))) (.cons
  (.set 1 (.bin .BitAnd (.var 1) (.lit (.int 255)))) (.cons
  (.fr [4] (.meth 4 (.var 3) .nil) (.cons
  (.set 1 (.sub (.var 2) (.bin .BitXor (.var 4) (.var 1)))) .nil)) (.cons
  (.ret (.var 1)) .nil))))
def nm_crc8r : List (Str × Nat) := [((Str.ofString "data"), 0), ((Str.ofString "crc"), 1), ((Str.ofString "table"), 2), ((Str.ofString "mv"), 3), ((Str.ofString "x"), 4)]
abbrev nv_crc8r : Nat := 5
def ps_crc8r : List Str := [(Str.ofString "data"), (Str.ofString "crc"), (Str.ofString "table")]

def x_crc16 : Ss := (.cons
  (.set 3 (.call (.glob 0) (.cons (.var 0) .nil))) (.cons
  (.set 1 (.bin .BitAnd (.var 1) (.lit (.int 65535)))) (.cons
  (.fr [4] (.meth 4 (.var 3) .nil) (.cons
  (.set 1 (.bin .BitXor (.sub (.var 2) (.bin .BitXor (.var 4) (.bin .BitAnd (.bin .RShift (.var 1) (.lit (.int 8))) (.lit (.int 255))))) (.bin .BitAnd (.bin .LShift (.var 1) (.lit (.int 8))) (.lit (.int 65280))))) .nil)) (.cons
  (.ret (.var 1)) .nil))))
def nm_crc16 : List (Str × Nat) := [((Str.ofString "data"), 0), ((Str.ofString "crc"), 1), ((Str.ofString "table"), 2), ((Str.ofString "mv"), 3), ((Str.ofString "x"), 4)]
abbrev nv_crc16 : Nat := 5
def ps_crc16 : List Str := [(Str.ofString "data"), (Str.ofString "crc"), (Str.ofString "table")]

def x_crc16r : Ss := (.cons
  (.set 3 (.call (.glob 0) (.cons (.var 0) .nil))) (.cons
  (.set 1 (.bin .BitAnd (.var 1) (.lit (.int 65535)))) (.cons
  (.fr [4] (.meth 4 (.var 3) .nil) (.cons
  (.set 1 (.bin .BitXor (.sub (.var 2) (.bin .BitXor (.var 4) (.bin .BitAnd (.var 1) (.lit (.int 255))))) (.bin .RShift (.var 1) (.lit (.int 8))))) .nil)) (.cons
  (.ret (.var 1)) .nil))))
def nm_crc16r : List (Str × Nat) := [((Str.ofString "data"), 0), ((Str.ofString "crc"), 1), ((Str.ofString "table"), 2), ((Str.ofString "mv"), 3), ((Str.ofString "x"), 4)]
abbrev nv_crc16r : Nat := 5
def ps_crc16r : List Str := [(Str.ofString "data"), (Str.ofString "crc"), (Str.ofString "table")]

def x_crc24 : Ss := (.cons
  (.set 3 (.call (.glob 0) (.cons (.var 0) .nil))) (.cons
  (.set 1 (.bin .BitAnd (.var 1) (.lit (.int 16777215)))) (.cons
  (.fr [4] (.meth 4 (.var 3) .nil) (.cons
  (.set 1 (.bin .BitXor (.sub (.var 2) (.bin .BitXor (.var 4) (.bin .BitAnd (.bin .RShift (.var 1) (.lit (.int 16))) (.lit (.int 255))))) (.bin .BitAnd (.bin .LShift (.var 1) (.lit (.int 8))) (.lit (.int 16776960))))) .nil)) (.cons
  (.ret (.var 1)) .nil))))
def nm_crc24 : List (Str × Nat) := [((Str.ofString "data"), 0), ((Str.ofString "crc"), 1), ((Str.ofString "table"), 2), ((Str.ofString "mv"), 3), ((Str.ofString "x"), 4)]
abbrev nv_crc24 : Nat := 5
def ps_crc24 : List Str := [(Str.ofString "data"), (Str.ofString "crc"), (Str.ofString "table")]

def x_crc24r : Ss := (.cons
  (.set 3 (.call (.glob 0) (.cons (.var 0) .nil))) (.cons
  (.set 1 (.bin .BitAnd (.var 1) (.lit (.int 16777215)))) (.cons
  (.fr [4] (.meth 4 (.var 3) .nil) (.cons
  (.set 1 (.bin .BitXor (.sub (.var 2) (.bin .BitXor (.var 4) (.bin .BitAnd (.var 1) (.lit (.int 255))))) (.bin .RShift (.var 1) (.lit (.int 8))))) .nil)) (.cons
  (.ret (.var 1)) .nil))))
def nm_crc24r : List (Str × Nat) := [((Str.ofString "data"), 0), ((Str.ofString "crc"), 1), ((Str.ofString "table"), 2), ((Str.ofString "mv"), 3), ((Str.ofString "x"), 4)]
abbrev nv_crc24r : Nat := 5
def ps_crc24r : List Str := [(Str.ofString "data"), (Str.ofString "crc"), (Str.ofString "table")]

def x_crc32 : Ss := (.cons
  (.set 3 (.call (.glob 0) (.cons (.var 0) .nil))) (.cons
  (.set 1 (.bin .BitAnd (.var 1) (.lit (.int 4294967295)))) (.cons
  (.fr [4] (.meth 4 (.var 3) .nil) (.cons
  (.set 1 (.bin .BitXor (.sub (.var 2) (.bin .BitXor (.var 4) (.bin .BitAnd (.bin .RShift (.var 1) (.lit (.int 24))) (.lit (.int 255))))) (.bin .BitAnd (.bin .LShift (.var 1) (.lit (.int 8))) (.lit (.int 4294967040))))) .nil)) (.cons
  (.ret (.var 1)) .nil))))
def nm_crc32 : List (Str × Nat) := [((Str.ofString "data"), 0), ((Str.ofString "crc"), 1), ((Str.ofString "table"), 2), ((Str.ofString "mv"), 3), ((Str.ofString "x"), 4)]
abbrev nv_crc32 : Nat := 5
def ps_crc32 : List Str := [(Str.ofString "data"), (Str.ofString "crc"), (Str.ofString "table")]

def x_crc32r : Ss := (.cons
  (.set 3 (.call (.glob 0) (.cons (.var 0) .nil))) (.cons
  (.set 1 (.bin .BitAnd (.var 1) (.lit (.int 4294967295)))) (.cons
  (.fr [4] (.meth 4 (.var 3) .nil) (.cons
  (.set 1 (.bin .BitXor (.sub (.var 2) (.bin .BitXor (.var 4) (.bin .BitAnd (.var 1) (.lit (.int 255))))) (.bin .RShift (.var 1) (.lit (.int 8))))) .nil)) (.cons
  (.ret (.var 1)) .nil))))
def nm_crc32r : List (Str × Nat) := [((Str.ofString "data"), 0), ((Str.ofString "crc"), 1), ((Str.ofString "table"), 2), ((Str.ofString "mv"), 3), ((Str.ofString "x"), 4)]
abbrev nv_crc32r : Nat := 5
def ps_crc32r : List Str := [(Str.ofString "data"), (Str.ofString "crc"), (Str.ofString "table")]

def x_Crc_init : Ss := (.cons
  (.ite (.not (.var 5)) (.cons
  (.ret .nop) .nil) .nil) (.cons
  (.setT [6, 2, 4] (.call (.glob 15) (.cons (.var 1) (.cons (.var 2) (.cons (.var 4) .nil))))) (.cons
  (.setA (.var 0) 0 (.bin .FloorDiv (.var 6) (.lit (.int 8)))) (.cons
  (.setA (.var 0) 1 (.var 2)) (.cons
  (.setA (.var 0) 2 (.var 4)) (.cons
  (.setA (.var 0) 3 (.var 1)) (.cons
  (.setA (.var 0) 4 (.var 3)) (.cons
  (.setT [7, 8] (.call (.glob 16) (.cons (.var 1) (.cons (.var 6) (.cons (.var 2) (.cons (.var 3) (.cons (.var 4) .nil))))))) (.cons
  (.setA (.var 0) 5 (.var 7)) (.cons
  (.setA (.var 0) 6 (.var 8)) (.cons
  (.setA (.var 0) 7 (.attr (.var 0) 1)) .nil)))))))))))
def nm_Crc_init : List (Str × Nat) := [((Str.ofString "self"), 0), ((Str.ofString "poly"), 1), ((Str.ofString "initCrc"), 2), ((Str.ofString "rev"), 3), ((Str.ofString "xorOut"), 4), ((Str.ofString "initialize"), 5), ((Str.ofString "sizeBits"), 6), ((Str.ofString "crcfun"), 7), ((Str.ofString "table"), 8)]
abbrev nv_Crc_init : Nat := 9
def ps_Crc_init : List Str := [(Str.ofString "self"), (Str.ofString "poly"), (Str.ofString "initCrc"), (Str.ofString "rev"), (Str.ofString "xorOut"), (Str.ofString "initialize")]

def x_Crc_new : Ss := (.cons
  (.setA (.var 2) 5 (.attr (.var 0) 5)) (.cons
  (.setA (.var 2) 0 (.attr (.var 0) 0)) (.cons
  (.setA (.var 2) 1 (.attr (.var 0) 1)) (.cons
  (.setA (.var 2) 2 (.attr (.var 0) 2)) (.cons
  (.setA (.var 2) 6 (.attr (.var 0) 6)) (.cons
  (.setA (.var 2) 7 (.attr (.var 0) 1)) (.cons
  (.setA (.var 2) 4 (.attr (.var 0) 4)) (.cons
  (.setA (.var 2) 3 (.attr (.var 0) 3)) (.cons
  (.ite (.cmp (.var 1) .IsNot (.lit .none)) (.cons
  (.ex (.meth 2 (.var 2) (.cons (.var 1) .nil))) .nil) .nil) (.cons
  (.ret (.var 2)) .nil))))))))))
def nm_Crc_new : List (Str × Nat) := [((Str.ofString "self"), 0), ((Str.ofString "arg"), 1), ((Str.ofString "n"), 2)]
abbrev nv_Crc_new : Nat := 3
def ps_Crc_new : List Str := [(Str.ofString "self"), (Str.ofString "arg")]

def x_Crc_copy : Ss := (.cons
  (.set 1 (.meth 0 (.var 0) .nil)) (.cons
  (.setA (.var 1) 7 (.attr (.var 0) 7)) (.cons
  (.ret (.var 1)) .nil)))
def nm_Crc_copy : List (Str × Nat) := [((Str.ofString "self"), 0), ((Str.ofString "c"), 1)]
abbrev nv_Crc_copy : Nat := 2
def ps_Crc_copy : List Str := [(Str.ofString "self")]

def x_Crc_update : Ss := (.cons
  (.setA (.var 0) 7 (.callA 5 (.var 0) (.cons (.var 1) (.cons (.attr (.var 0) 7) .nil)))) .nil)
def nm_Crc_update : List (Str × Nat) := [((Str.ofString "self"), 0), ((Str.ofString "data"), 1)]
abbrev nv_Crc_update : Nat := 2
def ps_Crc_update : List Str := [(Str.ofString "self"), (Str.ofString "data")]

def x_Crc_digest : Ss := (.cons
  (.set 1 (.attr (.var 0) 0)) (.cons
  (.set 2 (.attr (.var 0) 7)) (.cons
  (.set 3 (.list true .nil)) (.cons
  (.wh (.cmp (.var 1) .Gt (.lit (.int 0))) (.cons
  (.ex (.bmeth .append (.var 3) (.cons (.bin .BitAnd (.var 2) (.lit (.int 255))) .nil))) (.cons
  (.set 2 (.bin .RShift (.var 2) (.lit (.int 8)))) (.cons
  (.aug 1 .Sub (.lit (.int 1))) .nil)))) (.cons
  (.ex (.bmeth .reverse (.var 3) .nil)) (.cons
  (.ret (.call (.glob 103) (.cons (.var 3) .nil))) .nil))))))
def nm_Crc_digest : List (Str × Nat) := [((Str.ofString "self"), 0), ((Str.ofString "n"), 1), ((Str.ofString "crc"), 2), ((Str.ofString "lst"), 3)]
abbrev nv_Crc_digest : Nat := 4
def ps_Crc_digest : List Str := [(Str.ofString "self")]

def x_verifyPoly : Ss := (.cons
  (.set 1 (.lit (.str (Str.ofString "The degree of the polynomial must be 8, 16, 24, 32 or 64")))) (.cons
  (.fr [2] (.tup (.cons (.lit (.int 8)) (.cons (.lit (.int 16)) (.cons (.lit (.int 24)) (.cons (.lit (.int 32)) (.cons (.lit (.int 64)) .nil)))))) (.cons
  (.set 3 (.bin .LShift (.lit (.int 1)) (.var 2))) (.cons
  (.set 4 (.bin .Mult (.var 3) (.lit (.int 2)))) (.cons
  (.ite (.cmp2 (.var 3) .LtE (.var 0) .Lt (.var 4)) (.cons
  (.ret (.var 2)) .nil) .nil) .nil)))) (.cons
  .bad .nil)))
def nm_verifyPoly : List (Str × Nat) := [((Str.ofString "poly"), 0), ((Str.ofString "msg"), 1), ((Str.ofString "n"), 2), ((Str.ofString "low"), 3), ((Str.ofString "high"), 4)]
abbrev nv_verifyPoly : Nat := 5
def ps_verifyPoly : List Str := [(Str.ofString "poly")]

def x_bitrev : Ss := (.cons
  (.set 2 (.lit (.int 0))) (.cons
  (.fr [3] (.call (.glob 106) (.cons (.var 1) .nil)) (.cons
  (.set 2 (.bin .BitOr (.bin .LShift (.var 2) (.lit (.int 1))) (.bin .BitAnd (.var 0) (.lit (.int 1))))) (.cons
  (.set 0 (.bin .RShift (.var 0) (.lit (.int 1)))) .nil))) (.cons
  (.ret (.var 2)) .nil)))
def nm_bitrev : List (Str × Nat) := [((Str.ofString "x"), 0), ((Str.ofString "n"), 1), ((Str.ofString "y"), 2), ((Str.ofString "i"), 3)]
abbrev nv_bitrev : Nat := 4
def ps_bitrev : List Str := [(Str.ofString "x"), (Str.ofString "n")]

def x_bytecrc : Ss := (.cons
  (.set 3 (.bin .LShift (.lit (.int 1)) (.bin .Sub (.var 2) (.lit (.int 1))))) (.cons
  (.fr [4] (.call (.glob 106) (.cons (.lit (.int 8)) .nil)) (.cons
  (.ite (.bin .BitAnd (.var 0) (.var 3)) (.cons
  (.set 0 (.bin .BitXor (.bin .LShift (.var 0) (.lit (.int 1))) (.var 1))) .nil) (.cons
  (.set 0 (.bin .LShift (.var 0) (.lit (.int 1)))) .nil)) .nil)) (.cons
  (.set 3 (.bin .Sub (.bin .LShift (.lit (.int 1)) (.var 2)) (.lit (.int 1)))) (.cons
  (.set 0 (.bin .BitAnd (.var 0) (.var 3))) (.cons
  (.ret (.var 0)) .nil)))))
def nm_bytecrc : List (Str × Nat) := [((Str.ofString "crc"), 0), ((Str.ofString "poly"), 1), ((Str.ofString "n"), 2), ((Str.ofString "mask"), 3), ((Str.ofString "i"), 4)]
abbrev nv_bytecrc : Nat := 5
def ps_bytecrc : List Str := [(Str.ofString "crc"), (Str.ofString "poly"), (Str.ofString "n")]

def x_bytecrc_r : Ss := (.cons
  (.fr [3] (.call (.glob 106) (.cons (.lit (.int 8)) .nil)) (.cons
  (.ite (.bin .BitAnd (.var 0) (.lit (.int 1))) (.cons
  (.set 0 (.bin .BitXor (.bin .RShift (.var 0) (.lit (.int 1))) (.var 1))) .nil) (.cons
  (.set 0 (.bin .RShift (.var 0) (.lit (.int 1)))) .nil)) .nil)) (.cons
  (.set 4 (.bin .Sub (.bin .LShift (.lit (.int 1)) (.var 2)) (.lit (.int 1)))) (.cons
  (.set 0 (.bin .BitAnd (.var 0) (.var 4))) (.cons
  (.ret (.var 0)) .nil))))
def nm_bytecrc_r : List (Str × Nat) := [((Str.ofString "crc"), 0), ((Str.ofString "poly"), 1), ((Str.ofString "n"), 2), ((Str.ofString "i"), 3), ((Str.ofString "mask"), 4)]
abbrev nv_bytecrc_r : Nat := 5
def ps_bytecrc_r : List Str := [(Str.ofString "crc"), (Str.ofString "poly"), (Str.ofString "n")]

def x_verifyParams : Ss := (.cons
  (.set 3 (.call (.glob 9) (.cons (.var 0) .nil))) (.cons
  (.set 4 (.bin .Sub (.bin .LShift (.lit (.int 1)) (.var 3)) (.lit (.int 1)))) (.cons
  (.set 1 (.bin .BitAnd (.var 1) (.var 4))) (.cons
  (.set 2 (.bin .BitAnd (.var 2) (.var 4))) (.cons
  (.ret (.tup (.cons (.var 3) (.cons (.var 1) (.cons (.var 2) .nil))))) .nil)))))
def nm_verifyParams : List (Str × Nat) := [((Str.ofString "poly"), 0), ((Str.ofString "initCrc"), 1), ((Str.ofString "xorOut"), 2), ((Str.ofString "sizeBits"), 3), ((Str.ofString "mask"), 4)]
abbrev nv_verifyParams : Nat := 5
def ps_verifyParams : List Str := [(Str.ofString "poly"), (Str.ofString "initCrc"), (Str.ofString "xorOut")]

end Vc
end
section
open PySem PySem.W PyProof.Rows PySem.Calls
set_option autoImplicit false
set_option maxRecDepth 100000
namespace Vc
theorem lev_eq : ∀ l : List Nat, ofBytesL l = lev l
  | [] => rfl
  | x :: r => by rw [ofBytesL, lev, lev_eq r]

/-- the low bits of any whole number -/
def lowN (n : Nat) (a : Int) : Nat := (a % 2 ^ n).toNat
theorem pow_int (n : Nat) : (2 : Int) ^ n = ((2 ^ n : Nat) : Int) := by push_cast; rfl
theorem lowN_int (n : Nat) (a : Int) : (lowN n a : Int) = a % 2 ^ n := by
  unfold lowN
  rw [Int.toNat_of_nonneg]
  rw [pow_int]
  exact Int.emod_nonneg _ (by have := Nat.two_pow_pos n; omega)
theorem lowN_lt (n : Nat) (a : Int) : lowN n a < 2 ^ n := by
  have h := lowN_int n a
  rw [pow_int] at h
  have := Int.emod_lt_of_pos a (show (0 : Int) < ((2 ^ n : Nat) : Int) by have := Nat.two_pow_pos n; omega)
  omega
theorem and_low (n : Nat) (a : Int) : Builtin.bitAnd a (2 ^ n - 1) = (lowN n a : Int) := by rw [kbt_mask, lowN_int]
theorem lowN_nat (n m : Nat) : lowN n (m : Int) = m % 2 ^ n := by
  have := lowN_int n (m : Int)
  rw [pow_int] at this
  omega
theorem lowN_neg (n m : Nat) : lowN n (-(m : Int) - 1) = 2 ^ n - (m % 2 ^ n + 1) := by
  have h := lowN_int n (-(m : Int) - 1)
  rw [pow_int] at h
  have hp := Nat.two_pow_pos n
  have e : (-(m : Int) - 1) % ((2 ^ n : Nat) : Int) = ((2 ^ n - (m % 2 ^ n + 1) : Nat) : Int) := by
    have hm := Nat.mod_lt m hp
    have hd := Nat.mod_add_div m (2 ^ n)
    have : (-(m : Int) - 1) = ((2 ^ n - (m % 2 ^ n + 1) : Nat) : Int) + ((2 ^ n : Nat) : Int) * (-((m / 2 ^ n : Nat) : Int) - 1) := by
      have h2 : (m : Int) = ((m % 2 ^ n : Nat) : Int) + ((2 ^ n : Nat) : Int) * ((m / 2 ^ n : Nat) : Int) := by exact_mod_cast hd.symm
      have h3 : ((2 ^ n - (m % 2 ^ n + 1) : Nat) : Int) = ((2 ^ n : Nat) : Int) - ((m % 2 ^ n : Nat) : Int) - 1 := by omega
      rw [h3, Int.mul_sub, Int.mul_neg]
      omega
    rw [this, Int.add_mul_emod_self_left]
    exact Int.emod_eq_of_lt (by omega) (by omega)
  omega
theorem lowN_bit (n m i : Nat) : (lowN n (-(m : Int) - 1)).testBit i = (decide (i < n) && !m.testBit i) := by
  rw [lowN_neg, Nat.testBit_two_pow_sub_succ (Nat.mod_lt _ (Nat.two_pow_pos n)), Nat.testBit_mod_two_pow]
  cases decide (i < n) <;> simp
theorem lowN_bit' (n m i : Nat) : (lowN n (m : Int)).testBit i = (decide (i < n) && m.testBit i) := by
  rw [lowN_nat, Nat.testBit_mod_two_pow]
theorem sgn (a : Int) : (∃ m : Nat, a = m) ∨ ∃ m : Nat, a = -(m : Int) - 1 := by
  by_cases h : 0 ≤ a
  · exact .inl ⟨a.toNat, by omega⟩
  · exact .inr ⟨(-a - 1).toNat, by omega⟩
theorem bitXor_pn (a b : Nat) : Builtin.bitXor (a : Int) (-(b : Int) - 1) = -((a ^^^ b : Nat) : Int) - 1 := by
  rw [bitXor_and]
  unfold Builtin.bitAnd Builtin.bitNot
  rw [decide_eq_true (show (0 : Int) ≤ a by omega), decide_eq_false (show ¬ (0 : Int) ≤ -(b : Int) - 1 by omega)]
  simp only
  rw [show ((-(-(b : Int) - 1) - 1).toNat) = b by omega, Int.toNat_natCast]
  have := xor_add_and a b
  have h2 : a &&& b ≤ a := Nat.and_le_left
  omega
theorem bitXor_np (a b : Nat) : Builtin.bitXor (-(a : Int) - 1) (b : Int) = -((a ^^^ b : Nat) : Int) - 1 := by
  rw [bitXor_and]
  unfold Builtin.bitAnd Builtin.bitNot
  rw [decide_eq_true (show (0 : Int) ≤ b by omega), decide_eq_false (show ¬ (0 : Int) ≤ -(a : Int) - 1 by omega)]
  simp only
  rw [show ((-(-(a : Int) - 1) - 1).toNat) = a by omega, Int.toNat_natCast]
  have := xor_add_and a b
  have h2 : b &&& a = a &&& b := Nat.and_comm _ _
  rw [h2]
  omega
theorem bitXor_nn (a b : Nat) : Builtin.bitXor (-(a : Int) - 1) (-(b : Int) - 1) = ((a ^^^ b : Nat) : Int) := by
  rw [bitXor_and]
  unfold Builtin.bitAnd Builtin.bitNot
  rw [decide_eq_false (show ¬ (0 : Int) ≤ -(b : Int) - 1 by omega), decide_eq_false (show ¬ (0 : Int) ≤ -(a : Int) - 1 by omega)]
  simp only
  rw [show ((-(-(a : Int) - 1) - 1).toNat) = a by omega, show ((-(-(b : Int) - 1) - 1).toNat) = b by omega]
  have := xor_add_and a b
  have h2 := or_eq a b
  omega
theorem lowN_xor (n : Nat) (a b : Int) : lowN n (Builtin.bitXor a b) = lowN n a ^^^ lowN n b := by
  apply Nat.eq_of_testBit_eq
  intro i
  rw [Nat.testBit_xor]
  rcases sgn a with ⟨x, rfl⟩ | ⟨x, rfl⟩ <;> rcases sgn b with ⟨y, rfl⟩ | ⟨y, rfl⟩
  · rw [bitXor_nat, lowN_bit', lowN_bit', lowN_bit', Nat.testBit_xor]; cases decide (i < n) <;> simp
  · rw [bitXor_pn, lowN_bit, lowN_bit', lowN_bit, Nat.testBit_xor]; cases decide (i < n) <;> simp
  · rw [bitXor_np, lowN_bit, lowN_bit', lowN_bit, Nat.testBit_xor]; cases decide (i < n) <;> simp
  · rw [bitXor_nn, lowN_bit', lowN_bit, lowN_bit, Nat.testBit_xor]; cases decide (i < n) <;> simp

/-- what belongs to one law alone -/
structure LawP where
  gl : Nat → SV
  sp : Nat → List SV → List AO → (SV → List AO → Prop) → Prop
  depth : Nat → Nat

def sizeMapV : SV := .dct [8, 16, 24, 32, 64] [.lst [.fn 1, .fn 2], .lst [.fn 3, .fn 4], .lst [.fn 5, .fn 6], .lst [.fn 7, .fn 8], .lst [.fn 23, .fn 24]]
def glT (L : LawP) : Nat → SV
  | 100 => .bi .len | 101 => .bi .isinstance | 102 => .ty .int | 103 => .ty .bytes | 104 => .ty .str | 105 => .ty .list | 106 => .ty .range | 107 => .ty .enumerate | 108 => .ty .zip
  | 110 => .cls 1 | 111 => .cls 0 | 112 => sizeMapV | 113 => .bi .reduce
  | 120 => L.gl 0 | 121 => L.gl 1 | 122 => L.gl 2 | 123 => L.gl 3
  | k => .fn k

/-- a table's entries -/
def tabOf (back : Bool) (P n : Nat) : SV := .lst ((List.range 256).map fun b => .int ((if back then biter (prev (n + 1) P) 8 b else prest (b * 2 ^ n) P : Nat)))
/-- the crc function of a size and a direction -/
def crcNo (back : Bool) (n : Nat) : Nat := (n / 8 - 1) * 2 + 1 + (if back then 1 else 0)
/-- what a made object holds, its value apart -/
structure Cfg where
  P : Nat
  n : Nat
  back : Bool
  init : Nat
  xor : Nat
def Cfg.clo (c : Cfg) : SV := if c.xor = 0 then .clo 0 [.int c.init, tabOf c.back c.P c.n, .fn (crcNo c.back c.n)] else .clo 1 [.int c.xor, .int c.init, tabOf c.back c.P c.n, .fn (crcNo c.back c.n)]
structure Cfg.Ok (c : Cfg) : Prop where
  n : c.n = 8 ∨ c.n = 16 ∨ c.n = 24 ∨ c.n = 32
  P : bl c.P = c.n + 1
  init : c.init < 2 ^ c.n
  xor : c.xor < 2 ^ c.n
/-- the value behind octets -/
def Cfg.step (c : Cfg) (D : List Nat) (v : Nat) : Nat := c.xor ^^^ crcv c.back c.P c.n D (c.xor ^^^ v)
/-- an object of the class, with its value -/
def IsCrc (objs : List AO) (i : Nat) (g : Cfg) (v : Nat) : Prop :=
  ∃ fs, objs[i]? = some (.inst 1 fs) ∧ fs.length ≤ 8 ∧ fs.lookup 0 = some (.int (g.n / 8 : Nat)) ∧ fs.lookup 1 = some (.int g.init) ∧ fs.lookup 2 = some (.int g.xor) ∧ fs.lookup 3 = some (.int g.P) ∧
    fs.lookup 4 = some (.bool g.back) ∧ fs.lookup 5 = some g.clo ∧ fs.lookup 6 = some (tabOf g.back g.P g.n) ∧ fs.lookup 7 = some (.int v)
/-- old things but one stay -/
def KeepsBut (i : Nat) (objs objs' : List AO) : Prop := objs.length ≤ objs'.length ∧ ∀ j, j < objs.length → j ≠ i → objs'[j]? = objs[j]?
def Octs (D : List Nat) : Prop := D.length ≤ 10000 ∧ ∀ x ∈ D, x < 256

def spView (args : List SV) (objs : List AO) (K : SV → List AO → Prop) : Prop := match args with
  | [.bytes D] => (D.length ≤ 10000) ∧ K (.ref objs.length) (objs ++ [.inst 0 [(8, .bytes D)]])
  | _ => False
def spTob (args : List SV) (objs : List AO) (K : SV → List AO → Prop) : Prop := match args with
  | [.ref i] => (match objs[i]? with
    | some (.inst 0 fs) => (match fs.lookup 8 with
      | some x => K x objs
      | none => False)
    | _ => False)
  | _ => False
def spMk (args : List SV) (objs : List AO) (K : SV → List AO → Prop) : Prop := match args with
  | [] => K (.ref objs.length) (objs ++ [.inst 0 []])
  | _ => False
structure CrcPre (k : Nat) (back : Bool) (P n : Nat) (D : List Nat) (c : Int) (t : SV) : Prop where
  hk : k = crcNo back n
  hn : n = 8 ∨ n = 16 ∨ n = 24 ∨ n = 32
  hP : bl P = n + 1
  ht : t = tabOf back P n
  hD : Octs D
  c0 : 0 ≤ c
  c1 : c < 2 ^ n
/-- fun(data, crc, table) -/
def spCrc (k : Nat) (args : List SV) (objs : List AO) (K : SV → List AO → Prop) : Prop := match args with
  | [.bytes D, .int c, t] => ∃ back P n, CrcPre k back P n D c t ∧ K (.int (crcv back P n D c.toNat : Nat)) (objs ++ [.inst 0 [(8, .bytes D)]])
  | _ => False
/-- crcfun(data, crc) -/
def spFun0 (args : List SV) (objs : List AO) (K : SV → List AO → Prop) : Prop := match args with
  | [_, t, .fn k, .bytes D, .int c] => ∃ back P n, CrcPre k back P n D c t ∧ K (.int (crcv back P n D c.toNat : Nat)) (objs ++ [.inst 0 [(8, .bytes D)]])
  | _ => False
def spFun1 (args : List SV) (objs : List AO) (K : SV → List AO → Prop) : Prop := match args with
  | [.int x, _, t, .fn k, .bytes D, .int c] => ∃ back P n, (0 ≤ x ∧ x < 2 ^ n) ∧ CrcPre k back P n D c t ∧ K (.int (x.toNat ^^^ crcv back P n D (x.toNat ^^^ c.toNat) : Nat)) (objs ++ [.inst 0 [(8, .bytes D)]])
  | _ => False
def spUpdate (args : List SV) (objs : List AO) (K : SV → List AO → Prop) : Prop := match args with
  | [.ref i, .bytes D] => ∃ g v, g.Ok ∧ v < 2 ^ g.n ∧ Octs D ∧ IsCrc objs i g v ∧ ∀ objs', KeepsBut i objs objs' → IsCrc objs' i g (g.step D v) → K .none objs'
  | _ => False
def spNew (args : List SV) (objs : List AO) (K : SV → List AO → Prop) : Prop := match args with
  | [.ref i] => ∃ g v, g.Ok ∧ IsCrc objs i g v ∧ ∀ objs', KeepsBut objs.length objs objs' → IsCrc objs' objs.length g g.init → K (.ref objs.length) objs'
  | [.ref i, .bytes D] => ∃ g v, g.Ok ∧ Octs D ∧ IsCrc objs i g v ∧ ∀ objs', KeepsBut objs.length objs objs' → IsCrc objs' objs.length g (g.step D g.init) → K (.ref objs.length) objs'
  | _ => False
def spCopy (args : List SV) (objs : List AO) (K : SV → List AO → Prop) : Prop := match args with
  | [.ref i] => ∃ g v, g.Ok ∧ IsCrc objs i g v ∧ ∀ objs', KeepsBut objs.length objs objs' → IsCrc objs' objs.length g v → K (.ref objs.length) objs'
  | _ => False
def spDigest (args : List SV) (objs : List AO) (K : SV → List AO → Prop) : Prop := match args with
  | [.ref i] => ∃ g v, g.n ≤ 64 ∧ IsCrc objs i g v ∧ ∀ objs', KeepsBut objs.length objs objs' → K (.bytes (toBytesL (g.n / 8) v).reverse) objs'
  | _ => False
structure IntPre (P n : Nat) : Prop where
  hn : n = 8 ∨ n = 16 ∨ n = 24 ∨ n = 32
  hP : bl P = n + 1
/-- Crc(poly, initCrc, rev, xorOut) -/
def spMake (args : List SV) (objs : List AO) (K : SV → List AO → Prop) : Prop := match args with
  | [.int P, .int a, .bool back, .int b] => ∃ n, (0 ≤ P ∧ IntPre P.toNat n) ∧ ∀ objs', KeepsBut objs.length objs objs' → IsCrc objs' objs.length ⟨P.toNat, n, back, lowN n a, lowN n b⟩ (lowN n a) → K (.ref objs.length) objs'
  | _ => False
def spInit (args : List SV) (objs : List AO) (K : SV → List AO → Prop) : Prop := match args with
  | [.ref i, .int P, .int a, .bool back, .int b] => ∃ n, (0 ≤ P ∧ IntPre P.toNat n) ∧ objs[i]? = some (.inst 1 []) ∧ ∀ objs', KeepsBut i objs objs' → IsCrc objs' i ⟨P.toNat, n, back, lowN n a, lowN n b⟩ (lowN n a) → K .none objs'
  | _ => False
def spVPoly (args : List SV) (objs : List AO) (K : SV → List AO → Prop) : Prop := match args with
  | [.int P] => ∃ n, (0 ≤ P ∧ IntPre P.toNat n) ∧ K (.int n) objs
  | _ => False
def spRev (args : List SV) (objs : List AO) (K : SV → List AO → Prop) : Prop := match args with
  | [.int x, .int n] => (0 ≤ x ∧ bl x.toNat ≤ 2 ^ 20 ∧ 0 ≤ n ∧ n ≤ 64) ∧ K (.int (prev n.toNat x.toNat : Nat)) objs
  | _ => False
def spByte (args : List SV) (objs : List AO) (K : SV → List AO → Prop) : Prop := match args with
  | [.int c, .int p, .int n] => ∃ P, (0 ≤ c ∧ c < 2 ^ n.toNat ∧ 0 ≤ n ∧ IntPre P n.toNat ∧ p = (P % 2 ^ n.toNat : Nat)) ∧ K (.int (prest (c.toNat * 2 ^ 8) P : Nat)) objs
  | _ => False
def spByteR (args : List SV) (objs : List AO) (K : SV → List AO → Prop) : Prop := match args with
  | [.int c, .int p, .int n] => ∃ P, (0 ≤ c ∧ c < 2 ^ 8 ∧ 0 ≤ n ∧ IntPre P n.toNat ∧ p = (prev n.toNat (P % 2 ^ n.toNat) : Nat)) ∧ K (.int (biter (prev (n.toNat + 1) P) 8 c.toNat : Nat)) objs
  | _ => False
def spTable (back : Bool) (args : List SV) (objs : List AO) (K : SV → List AO → Prop) : Prop := match args with
  | [.int P, .int n] => (0 ≤ P ∧ 0 ≤ n ∧ IntPre P.toNat n.toNat) ∧ K (tabOf back P.toNat n.toNat) objs
  | _ => False
def spParams (args : List SV) (objs : List AO) (K : SV → List AO → Prop) : Prop := match args with
  | [.int P, .int a, .int b] => ∃ n, (0 ≤ P ∧ IntPre P.toNat n) ∧ K (.tup [.int n, .int (lowN n a), .int (lowN n b)]) objs
  | _ => False
def spMkFun (args : List SV) (objs : List AO) (K : SV → List AO → Prop) : Prop := match args with
  | [.int P, .int n, .int a, .bool back, .int b] => (0 ≤ P ∧ 0 ≤ n ∧ 0 ≤ a ∧ 0 ≤ b ∧ IntPre P.toNat n.toNat) ∧ K (.tup [(Cfg.mk P.toNat n.toNat back a.toNat b.toNat).clo, tabOf back P.toNat n.toNat]) objs
  | _ => False
def natsV (l : List Nat) : List SV := l.map fun (x : Nat) => .int x
/-- lambda rows, row -/
def spLam (args : List SV) (objs : List AO) (K : SV → List AO → Prop) : Prop := match args with
  | [.lst l, .int r] => ∃ (ns : List Nat) (m : Nat), (l = natsV ns ∧ r = m ∧ ns.length ≤ 1000) ∧ K (.lst (natsV (ns ++ ns.map (m ^^^ ·)))) objs
  | _ => False

def spT (L : LawP) : Nat → List SV → List AO → (SV → List AO → Prop) → Prop
  | 0 => spView
  | 1 => spCrc 1 | 2 => spCrc 2 | 3 => spCrc 3 | 4 => spCrc 4 | 5 => spCrc 5 | 6 => spCrc 6 | 7 => spCrc 7 | 8 => spCrc 8
  | 9 => spVPoly | 10 => spRev | 11 => spByte | 12 => spByteR | 13 => spTable false | 14 => spTable true | 15 => spParams | 16 => spMkFun | 17 => spInit
  | 18 => spNew | 20 => spUpdate | 21 => spDigest
  | 22 => spTob
  | 1000 => spMk | 1001 => spMake
  | 2030 => spFun0 | 2041 => spFun1 | 2002 => spLam | 2003 => spLam
  | 19 => L.sp 19
  | 30 => L.sp 30 | 31 => L.sp 31 | 32 => L.sp 32 | 33 => L.sp 33 | 34 => L.sp 34 | 35 => L.sp 35 | 36 => L.sp 36 | 37 => L.sp 37 | 38 => L.sp 38 | 39 => L.sp 39 | 40 => L.sp 40
  | _ => fun _ _ _ => False
def depthT (L : LawP) : Nat → Nat
  | 22 => 1 | 1000 => 1 | 0 => 2
  | 1 => 3 | 2 => 3 | 3 => 3 | 4 => 3 | 5 => 3 | 6 => 3 | 7 => 3 | 8 => 3
  | 2030 => 4 | 2041 => 4 | 20 => 5 | 18 => 6 | 21 => 1
  | 9 => 1 | 10 => 1 | 11 => 1 | 12 => 1 | 2002 => 1 | 2003 => 1 | 13 => 3 | 14 => 3 | 15 => 2 | 16 => 4 | 17 => 5 | 1001 => 6
  | 19 => 7
  | 30 => L.depth 30 | 31 => L.depth 31 | 32 => L.depth 32 | 33 => L.depth 33 | 34 => L.depth 34 | 35 => L.depth 35 | 36 => L.depth 36 | 37 => L.depth 37 | 38 => L.depth 38 | 39 => L.depth 39 | 40 => L.depth 40
  | _ => 1
def mcT : Nat → Nat | 4 => 0 | _ => 1
def miT : Nat → Nat | 0 => 18 | 1 => 19 | 2 => 20 | 3 => 21 | _ => 22
def cT (L : LawP) (ℓ : Nat) : C := ⟨glT L, fun k args objs K => depthT L k ≤ ℓ ∧ spT L k args objs K, mcT, miT⟩

theorem rng_len (k : Nat) : (rngItems 0 (k : Int) 1).length = k := by
  unfold rngItems
  rw [List.length_map, List.length_range, rangeSize_nat]
  omega
theorem rng_small {k : Nat} (h : k ≤ 2 ^ 40) : Builtin.Range.small 0 (k : Int) 1 = true := by
  exact small_one (by omega) (by omega) (by omega) (by omega)
theorem rng_get {k i : Nat} {x : SV} (h : (rngItems 0 (k : Int) 1)[i]? = some x) : i < k ∧ x = .int i := by
  have hi := (List.getElem?_eq_some_iff.mp h).1
  rw [rng_len] at hi
  refine ⟨hi, ?_⟩
  unfold rngItems at h
  rw [List.getElem?_map, List.getElem?_range (by rw [rangeSize_nat]; omega)] at h
  simp at h
  exact h.symm
theorem other_eq {P n : Nat} (hP : bl P = n + 1) : (prev n (P % 2 ^ n) * 2 ||| 1) = prev (n + 1) P := by
  have hp : P ≠ 0 := by rintro rfl; rw [bl_zero] at hP; omega
  apply Nat.eq_of_testBit_eq
  intro i
  rw [Nat.testBit_or, prev_bit]
  cases i with
  | zero =>
    have := testBit_top hp
    rw [hP] at this
    have e : n + 1 - 1 = n := rfl
    simp [e] at this ⊢
    exact this
  | succ i =>
    rw [Nat.testBit_succ, Nat.testBit_succ, show prev n (P % 2 ^ n) * 2 / 2 = prev n (P % 2 ^ n) by omega, prev_bit, Nat.testBit_mod_two_pow]
    simp only [show (1 : Nat) / 2 = 0 by rfl, Nat.zero_testBit, Bool.or_false]
    by_cases hi : i < n
    · simp only [hi, decide_true, Bool.true_and, show i + 1 < n + 1 by omega, show n - 1 - i < n by omega]
      congr 1; omega
    · simp [hi]
theorem mask_int (P n : Nat) : Builtin.bitAnd (P : Int) (1 * 2 ^ ((n : Int)).toNat - 1) = ((P % 2 ^ n : Nat) : Int) := by
  rw [Int.one_mul, Int.toNat_natCast, kbt_mask]; push_cast; rfl
theorem mask_low (a : Int) (n : Nat) : Builtin.bitAnd a (1 * 2 ^ ((n : Int)).toNat - 1) = (lowN n a : Int) := by
  rw [Int.one_mul, Int.toNat_natCast, and_low]
theorem biter_succ (o k v : Nat) : biter o (k + 1) v = bstep o (biter o k v) := by
  rw [biter_add]; rfl
end Vc
end
section
open PySem PySem.W PyProof.Rows PySem.Calls
set_option autoImplicit false
set_option maxRecDepth 100000
namespace Vc
local macro_rules | `(tactic| walk_at "vs") => `(tactic| first | exact True.intro | exact rfl | omega | (simp only [intBits_nat]; omega) | (simp only [lim, List.length]; omega) | exact IntMulOk.of_left (by decide))
local macro_rules | `(tactic| walk_at "vg") => `(tactic| ((repeat ((conv => whnf); (try dsimp only [List.set, setvs]); refine And.intro (by walk_at "vs") ?_)); (conv => whnf); (try dsimp only [List.set, setvs])))

theorem vc_tob {L : LawP} {ℓ : Nat} {args : List SV} {objs : List AO} {K : SV → List AO → Prop} (h : spTob args objs K) : ∃ i, args = [.ref i] ∧ wpSs (cT L ℓ) x_View_tobytes ⟨vars0 args 1, objs⟩ fun fl σ => K (retV fl) σ.objs := by
  unfold spTob at h
  split at h
  · rename_i i
    refine ⟨i, rfl, ?_⟩
    split at h
    · rename_i fs e
      split at h
      · rename_i x ex
        walk_at "vg"
        rw [e]
        walk_at "vg"
        rw [ex]
        exact h
      · exact h.elim
    · exact h.elim
  · exact h.elim

theorem get_last (objs : List AO) (x : AO) : (objs ++ [x])[objs.length]? = some x := by
  rw [List.getElem?_append_right (Nat.le_refl _)]; simp
theorem set_last (objs : List AO) (x y : AO) : (objs ++ [x]).set objs.length y = objs ++ [y] := by
  rw [List.set_append_right _ _ (Nat.le_refl _)]; simp
theorem vc_view {L : LawP} {ℓ : Nat} (hℓ : 1 ≤ ℓ) {args : List SV} {objs : List AO} {K : SV → List AO → Prop} (h : spView args objs K) : ∃ D, args = [.bytes D] ∧ wpSs (cT L ℓ) x_get_buffer_view ⟨vars0 args 2, objs⟩ fun fl σ => K (retV fl) σ.objs := by
  unfold spView at h
  split at h
  · rename_i D
    obtain ⟨hD, h⟩ := h
    refine ⟨D, rfl, ?_⟩
    walk_at "vg"
    refine ⟨hℓ, ?_⟩
    walk_at "vg"
    refine ⟨by simp [lim]; omega, ?_⟩
    rw [show List.intercalate [] [D] = D by simp [List.intercalate]]
    walk_at "vg"
    rw [get_last]
    walk_at "vg"
    rw [set_last]
    exact h
  · exact h.elim

def crcSk (mask : Int) (E : X) : Ss := .cons (.set 3 (.call (.glob 0) (.cons (.var 0) .nil))) (.cons (.set 1 (.bin .BitAnd (.var 1) (.lit (.int mask)))) (.cons (.fr [4] (.meth 4 (.var 3) .nil) (.cons (.set 1 E) .nil)) (.cons (.ret (.var 1)) .nil)))
theorem crcv_nil {back : Bool} {P n c : Nat} (hP : bl P = n + 1) (hc : c < 2 ^ n) : crcv back P n [] c = c := by
  have hp : P ≠ 0 := by rintro rfl; rw [bl_zero] at hP; omega
  cases back with
  | true => show biter (prev (n + 1) P) 0 (0 ^^^ c) = c; simp [biter]
  | false =>
    show prest (0 * 2 ^ n ^^^ c * 2 ^ 0) P = c
    rw [Nat.zero_mul, Nat.zero_xor, Nat.pow_zero, Nat.mul_one]
    exact prest_self hp (by have := bl_le.mpr hc; omega)
theorem vc_crcSk {L : LawP} {ℓ : Nat} (hℓ : 2 ≤ ℓ) {E : X} {mask : Int} {back : Bool} {P n c : Nat} {D : List Nat} {l : List SV} {objs : List AO} {K : SV → List AO → Prop} (hP : bl P = n + 1) (hm : mask = 2 ^ n - 1) (hD : Octs D) (hc : c < 2 ^ n)
    (hE : ∀ (x cv i : Nat) (objs : List AO) (K : SV → St → Prop), x < 256 → cv < 2 ^ n → K (.int (crcv back P n [x] cv : Nat)) ⟨[.bytes D, .int cv, .lst l, .ref i, .int x], objs⟩ → wpE (cT L ℓ) E ⟨[.bytes D, .int cv, .lst l, .ref i, .int x], objs⟩ K)
    (h : K (.int (crcv back P n D c : Nat)) (objs ++ [.inst 0 [(8, .bytes D)]])) : wpSs (cT L ℓ) (crcSk mask E) ⟨vars0 [.bytes D, .int c, .lst l] 5, objs⟩ fun fl σ => K (retV fl) σ.objs := by
  obtain ⟨hD1, hD2⟩ := hD
  have hlt : ∀ D' : List Nat, (∀ x ∈ D', x < 256) → crcv back P n D' c < 2 ^ n := fun D' h => (crcv_phi hP h hc).2
  walk_at "vg"
  refine ⟨hℓ, ?_⟩
  walk_at "vg"
  rw [hm, and_low, lowN_nat, Nat.mod_eq_of_lt hc, get_last]
  walk_at "vg"
  refine ⟨by show 1 ≤ ℓ; omega, ?_⟩
  conv => whnf
  rw [get_last]
  walk_at "vg"
  refine ⟨by simp [lim]; omega, ?_⟩
  refine for_ok (fun i σ => ∃ z, σ = ⟨[.bytes D, .int (crcv back P n (D.take i) c : Nat), .lst l, .ref objs.length, z], objs ++ [.inst 0 [(8, .bytes D)]]⟩) ⟨.unb, ?_⟩ (fun _ _ _ => True.intro) ?_ ?_
  · rw [List.take_zero, crcv_nil hP hc]; rfl
  · rintro i x σ R hx ⟨z, rfl⟩ hn _ _ _
    rw [List.getElem?_map] at hx
    obtain ⟨y, hy, rfl⟩ := Option.map_eq_some_iff.mp hx
    have hy2 := hD2 y (List.mem_of_getElem? hy)
    have htk : ∀ x ∈ D.take i, x < 256 := fun x hx => hD2 x (List.mem_of_mem_take hx)
    conv => whnf
    dsimp only [List.set]
    refine hE y _ _ _ _ hy2 (hlt _ htk) ?_
    refine hn _ ⟨.int y, ?_⟩
    rw [List.take_add_one, hy]
    have e := crcv_append (back := back) (P := P) (n := n) (D := D.take i) (E := [y]) (c := c) hP htk (by simpa using hy2) hc
    show _ = St.mk [_, SV.int (crcv back P n (D.take i ++ [y]) c : Nat), _, _, _] _
    rw [e]; rfl
  · rintro σ ⟨z, rfl⟩
    rw [List.length_map, List.take_length]
    walk_at "vg"
    exact h

theorem idx_nat {m j : Nat} (h : j < m) : idx m (j : Int) = some j := by
  unfold idx
  rw [if_pos (by omega), if_pos (by omega), Int.toNat_natCast]
/-- the table's list -/
def tabL (back : Bool) (P n : Nat) : List SV := (List.range 256).map fun b => .int ((if back then biter (prev (n + 1) P) 8 b else prest (b * 2 ^ n) P : Nat))
theorem tabL_get {back : Bool} {P n b : Nat} (h : b < 256) : (tabL back P n)[b]? = some (.int ((if back then biter (prev (n + 1) P) 8 b else prest (b * 2 ^ n) P : Nat))) := by
  unfold tabL
  rw [List.getElem?_map, List.getElem?_range h]; rfl
theorem tabL_len {back : Bool} {P n : Nat} : (tabL back P n).length = 256 := by simp [tabL]
theorem tabOf_eq (back : Bool) (P n : Nat) : tabOf back P n = .lst (tabL back P n) := rfl
theorem shl8_mask {c n : Nat} (h : 8 ≤ n) : (c * 2 ^ 8) &&& (2 ^ n - 2 ^ 8) = (c % 2 ^ (n - 8)) * 2 ^ 8 := by
  have e : 2 ^ n - 2 ^ 8 = (2 ^ (n - 8) - 1) * 2 ^ 8 := by
    have : 2 ^ n = 2 ^ (n - 8) * 2 ^ 8 := by rw [← Nat.pow_add]; congr 1; omega
    rw [this, Nat.sub_mul, Nat.one_mul]
  rw [e, ← Nat.and_two_pow_sub_one_eq_mod]
  apply Nat.eq_of_testBit_eq
  intro i
  rw [Nat.testBit_and, Nat.testBit_mul_two_pow, Nat.testBit_mul_two_pow, Nat.testBit_mul_two_pow, Nat.testBit_and]
  cases decide (8 ≤ i) <;> simp
def E8 : X := .sub (.var 2) (.bin .BitXor (.var 4) (.var 1))
def Ebig (k mask : Int) : X := .bin .BitXor (.sub (.var 2) (.bin .BitXor (.var 4) (.bin .BitAnd (.bin .RShift (.var 1) (.lit (.int k))) (.lit (.int 255))))) (.bin .BitAnd (.bin .LShift (.var 1) (.lit (.int 8))) (.lit (.int mask)))
def Elit : X := .bin .BitXor (.sub (.var 2) (.bin .BitXor (.var 4) (.bin .BitAnd (.var 1) (.lit (.int 255))))) (.bin .RShift (.var 1) (.lit (.int 8)))
theorem sub_tab {l : List SV} {j : Nat} {x : SV} {objs : List AO} {K : SV → Prop} (hl : l.length = 256) (hj : j < 256) (hx : l[j]? = some x) (h : K x) : subW (.lst l) (.int (j : Nat)) objs K := by
  show (-(2 ^ 62) < (j : Int) ∧ (j : Int) < 2 ^ 62) ∧ (match idx l.length (j : Int) with
        | some j => (match l[j]? with
          | some x => K x
          | none => False)
        | none => False)
  rw [hl, idx_nat hj]
  simp only [hx]
  exact ⟨by omega, h⟩
theorem vc_Ebig {L : LawP} {ℓ : Nat} {P n : Nat} {D : List Nat} {k mask : Int} (hk : k = (n - 8 : Nat)) (hm : mask = (2 ^ n - 2 ^ 8 : Nat)) (hP : bl P = n + 1) (h8 : 8 ≤ n) (hn : n ≤ 64) (x cv i : Nat) (objs : List AO) (K : SV → St → Prop) (hx : x < 256) (hc : cv < 2 ^ n)
    (h : K (.int (crcv false P n [x] cv : Nat)) ⟨[.bytes D, .int cv, .lst (tabL false P n), .ref i, .int x], objs⟩) : wpE (cT L ℓ) (Ebig k mask) ⟨[.bytes D, .int cv, .lst (tabL false P n), .ref i, .int x], objs⟩ K := by
  subst hk hm
  have hb : bl cv ≤ n := bl_le.mpr hc
  have hq : cv / 2 ^ (n - 8) < 256 := by
    rw [Nat.div_lt_iff_lt_mul (Nat.two_pow_pos _)]
    have : 2 ^ n = 256 * 2 ^ (n - 8) := by rw [show (256 : Nat) = 2 ^ 8 from rfl, ← Nat.pow_add]; congr 1; omega
    omega
  have hj : x ^^^ cv / 2 ^ (n - 8) < 256 := Nat.xor_lt_two_pow (n := 8) hx hq
  walk_at "vg"
  have e1 : Builtin.bitXor (x : Int) (Builtin.bitAnd ((cv : Int).fdiv (2 ^ (((n - 8 : Nat) : Int)).toNat)) 255) = ((x ^^^ cv / 2 ^ (n - 8) : Nat) : Int) := by
    rw [shr_nat, bitAnd_m8, Int.emod_eq_of_lt (Int.natCast_nonneg _) (by exact_mod_cast hq), bitXor_nat]
  rw [e1]
  refine sub_tab (objs := []) tabL_len hj (tabL_get hj) ?_
  walk_at "vg"
  rw [show (8 : Int) = ((8 : Nat) : Int) from rfl, shl_nat, bitAnd_nat, shl8_mask h8]
  rw [if_neg (by decide), bitXor_nat, step_big hP h8 rfl]
  exact h
theorem vc_Elit {L : LawP} {ℓ : Nat} {P n : Nat} {D : List Nat} (hP : bl P = n + 1) (x cv i : Nat) (objs : List AO) (K : SV → St → Prop) (hx : x < 256) (hc : cv < 2 ^ n)
    (h : K (.int (crcv true P n [x] cv : Nat)) ⟨[.bytes D, .int cv, .lst (tabL true P n), .ref i, .int x], objs⟩) : wpE (cT L ℓ) Elit ⟨[.bytes D, .int cv, .lst (tabL true P n), .ref i, .int x], objs⟩ K := by
  have hp : P ≠ 0 := by rintro rfl; rw [bl_zero] at hP; omega
  have ho : prev (n + 1) P % 2 = 1 := by
    have : (prev (n + 1) P).testBit 0 = true := by
      rw [prev_bit]
      have := testBit_top hp
      rw [hP] at this
      simpa using this
    rw [Nat.testBit_zero] at this
    simpa using this
  have hj : x ^^^ cv % 256 < 256 := Nat.xor_lt_two_pow (n := 8) hx (Nat.mod_lt _ (by decide))
  walk_at "vg"
  have e1 : Builtin.bitXor (x : Int) (Builtin.bitAnd (cv : Int) 255) = ((x ^^^ cv % 256 : Nat) : Int) := by
    rw [bitAnd_m8, show (cv : Int) % 256 = ((cv % 256 : Nat) : Int) by omega, bitXor_nat]
  rw [e1]
  refine sub_tab (objs := []) tabL_len hj (tabL_get hj) ?_
  walk_at "vg"
  rw [show (8 : Int) = ((8 : Nat) : Int) from rfl, shr_nat, if_pos rfl, bitXor_nat, step_little rfl ho]
  exact h
theorem vc_E8 {L : LawP} {ℓ : Nat} {back : Bool} {P : Nat} {D : List Nat} (hP : bl P = 9) (x cv i : Nat) (objs : List AO) (K : SV → St → Prop) (hx : x < 256) (hc : cv < 2 ^ 8)
    (h : K (.int (crcv back P 8 [x] cv : Nat)) ⟨[.bytes D, .int cv, .lst (tabL back P 8), .ref i, .int x], objs⟩) : wpE (cT L ℓ) E8 ⟨[.bytes D, .int cv, .lst (tabL back P 8), .ref i, .int x], objs⟩ K := by
  have hp : P ≠ 0 := by rintro rfl; rw [bl_zero] at hP; omega
  have ho : prev (8 + 1) P % 2 = 1 := by
    have : (prev (8 + 1) P).testBit 0 = true := by
      rw [prev_bit]
      have := testBit_top hp
      rw [hP] at this
      simpa using this
    rw [Nat.testBit_zero] at this
    simpa using this
  have hj : x ^^^ cv < 256 := Nat.xor_lt_two_pow (n := 8) hx hc
  walk_at "vg"
  rw [bitXor_nat]
  refine sub_tab (objs := []) tabL_len hj (tabL_get hj) ?_
  cases back with
  | true =>
    have e := step_little (P := P) (n := 8) (c := cv) (x := x) rfl ho
    rw [show cv % 256 = cv from Nat.mod_eq_of_lt hc, show cv / 2 ^ 8 = 0 from Nat.div_eq_of_lt hc, Nat.xor_zero] at e
    rw [if_pos rfl, e]; exact h
  | false =>
    have e := step_big (P := P) (n := 8) (c := cv) (x := x) hP (by decide) rfl
    rw [show cv / 2 ^ (8 - 8) = cv by simp, show cv % 2 ^ (8 - 8) = 0 by simp [Nat.mod_one], Nat.zero_mul, Nat.xor_zero] at e
    rw [if_neg (by decide), e]; exact h

theorem crc_inv {k : Nat} {args : List SV} {objs : List AO} {K : SV → List AO → Prop} (h : spCrc k args objs K) : ∃ (D : List Nat) (c : Nat) (back : Bool) (P n : Nat), args = [.bytes D, .int c, .lst (tabL back P n)] ∧ k = crcNo back n ∧ (n = 8 ∨ n = 16 ∨ n = 24 ∨ n = 32) ∧ bl P = n + 1 ∧ Octs D ∧ c < 2 ^ n ∧
    K (.int (crcv back P n D c : Nat)) (objs ++ [.inst 0 [(8, .bytes D)]]) := by
  unfold spCrc at h
  split at h
  · rename_i D c t
    obtain ⟨back, P, n, ⟨hk, hn, hP, ht, hD, c0, c1⟩, hK⟩ := h
    have ec : c = ((c.toNat : Nat) : Int) := by omega
    refine ⟨D, c.toNat, back, P, n, ?_, hk, hn, hP, hD, ?_, hK⟩
    · rw [ht, tabOf_eq, ← ec]
    · have : (c.toNat : Int) < ((2 ^ n : Nat) : Int) := by rw [← ec]; push_cast; exact c1
      exact_mod_cast this
  · exact h.elim
section
variable {L : LawP} {ℓ : Nat} {args : List SV} {objs : List AO} {K : SV → List AO → Prop}
theorem crc_k {k m : Nat} {b : Bool} {back : Bool} {n : Nat} (hk : k = crcNo back n) (hn : n = 8 ∨ n = 16 ∨ n = 24 ∨ n = 32) (hm : m = 8 ∨ m = 16 ∨ m = 24 ∨ m = 32) (e : k = crcNo b m) : back = b ∧ n = m := by
  subst hk
  rcases hn with rfl | rfl | rfl | rfl <;> rcases hm with rfl | rfl | rfl | rfl <;> cases back <;> cases b <;> revert e <;> decide
theorem vc_crc8 (hℓ : 2 ≤ ℓ) (h : spCrc 1 args objs K) : ∃ D c t, args = [.bytes D, .int c, t] ∧ wpSs (cT L ℓ) x_crc8 ⟨vars0 args 5, objs⟩ fun fl σ => K (retV fl) σ.objs := by
  obtain ⟨D, c, back, P, n, rfl, hk, hn, hP, hD, hc, hK⟩ := crc_inv h
  obtain ⟨rfl, rfl⟩ := crc_k (b := false) (m := 8) hk hn (.inl rfl) rfl
  exact ⟨_, _, _, rfl, vc_crcSk (E := E8) (mask := 255) hℓ hP (by decide) hD hc (fun x cv i objs K => vc_E8 hP x cv i objs K) hK⟩
theorem vc_crc8r (hℓ : 2 ≤ ℓ) (h : spCrc 2 args objs K) : ∃ D c t, args = [.bytes D, .int c, t] ∧ wpSs (cT L ℓ) x_crc8r ⟨vars0 args 5, objs⟩ fun fl σ => K (retV fl) σ.objs := by
  obtain ⟨D, c, back, P, n, rfl, hk, hn, hP, hD, hc, hK⟩ := crc_inv h
  obtain ⟨rfl, rfl⟩ := crc_k (b := true) (m := 8) hk hn (.inl rfl) rfl
  exact ⟨_, _, _, rfl, vc_crcSk (E := E8) (mask := 255) hℓ hP (by decide) hD hc (fun x cv i objs K => vc_E8 hP x cv i objs K) hK⟩
theorem vc_crc16 (hℓ : 2 ≤ ℓ) (h : spCrc 3 args objs K) : ∃ D c t, args = [.bytes D, .int c, t] ∧ wpSs (cT L ℓ) x_crc16 ⟨vars0 args 5, objs⟩ fun fl σ => K (retV fl) σ.objs := by
  obtain ⟨D, c, back, P, n, rfl, hk, hn, hP, hD, hc, hK⟩ := crc_inv h
  obtain ⟨rfl, rfl⟩ := crc_k (b := false) (m := 16) hk hn (by simp) rfl
  exact ⟨_, _, _, rfl, vc_crcSk (E := Ebig 8 65280) (mask := 65535) hℓ hP (by decide) hD hc (fun x cv i objs K => vc_Ebig (by decide) (by decide) hP (by decide) (by decide) x cv i objs K) hK⟩
theorem vc_crc24 (hℓ : 2 ≤ ℓ) (h : spCrc 5 args objs K) : ∃ D c t, args = [.bytes D, .int c, t] ∧ wpSs (cT L ℓ) x_crc24 ⟨vars0 args 5, objs⟩ fun fl σ => K (retV fl) σ.objs := by
  obtain ⟨D, c, back, P, n, rfl, hk, hn, hP, hD, hc, hK⟩ := crc_inv h
  obtain ⟨rfl, rfl⟩ := crc_k (b := false) (m := 24) hk hn (by simp) rfl
  exact ⟨_, _, _, rfl, vc_crcSk (E := Ebig 16 16776960) (mask := 16777215) hℓ hP (by decide) hD hc (fun x cv i objs K => vc_Ebig (by decide) (by decide) hP (by decide) (by decide) x cv i objs K) hK⟩
theorem vc_crc32 (hℓ : 2 ≤ ℓ) (h : spCrc 7 args objs K) : ∃ D c t, args = [.bytes D, .int c, t] ∧ wpSs (cT L ℓ) x_crc32 ⟨vars0 args 5, objs⟩ fun fl σ => K (retV fl) σ.objs := by
  obtain ⟨D, c, back, P, n, rfl, hk, hn, hP, hD, hc, hK⟩ := crc_inv h
  obtain ⟨rfl, rfl⟩ := crc_k (b := false) (m := 32) hk hn (by simp) rfl
  exact ⟨_, _, _, rfl, vc_crcSk (E := Ebig 24 4294967040) (mask := 4294967295) hℓ hP (by decide) hD hc (fun x cv i objs K => vc_Ebig (by decide) (by decide) hP (by decide) (by decide) x cv i objs K) hK⟩
theorem vc_crc16r (hℓ : 2 ≤ ℓ) (h : spCrc 4 args objs K) : ∃ D c t, args = [.bytes D, .int c, t] ∧ wpSs (cT L ℓ) x_crc16r ⟨vars0 args 5, objs⟩ fun fl σ => K (retV fl) σ.objs := by
  obtain ⟨D, c, back, P, n, rfl, hk, hn, hP, hD, hc, hK⟩ := crc_inv h
  obtain ⟨rfl, rfl⟩ := crc_k (b := true) (m := 16) hk hn (by simp) rfl
  exact ⟨_, _, _, rfl, vc_crcSk (E := Elit) (mask := 65535) hℓ hP (by decide) hD hc (fun x cv i objs K => vc_Elit hP x cv i objs K) hK⟩
theorem vc_crc24r (hℓ : 2 ≤ ℓ) (h : spCrc 6 args objs K) : ∃ D c t, args = [.bytes D, .int c, t] ∧ wpSs (cT L ℓ) x_crc24r ⟨vars0 args 5, objs⟩ fun fl σ => K (retV fl) σ.objs := by
  obtain ⟨D, c, back, P, n, rfl, hk, hn, hP, hD, hc, hK⟩ := crc_inv h
  obtain ⟨rfl, rfl⟩ := crc_k (b := true) (m := 24) hk hn (by simp) rfl
  exact ⟨_, _, _, rfl, vc_crcSk (E := Elit) (mask := 16777215) hℓ hP (by decide) hD hc (fun x cv i objs K => vc_Elit hP x cv i objs K) hK⟩
theorem vc_crc32r (hℓ : 2 ≤ ℓ) (h : spCrc 8 args objs K) : ∃ D c t, args = [.bytes D, .int c, t] ∧ wpSs (cT L ℓ) x_crc32r ⟨vars0 args 5, objs⟩ fun fl σ => K (retV fl) σ.objs := by
  obtain ⟨D, c, back, P, n, rfl, hk, hn, hP, hD, hc, hK⟩ := crc_inv h
  obtain ⟨rfl, rfl⟩ := crc_k (b := true) (m := 32) hk hn (by simp) rfl
  exact ⟨_, _, _, rfl, vc_crcSk (E := Elit) (mask := 4294967295) hℓ hP (by decide) hD hc (fun x cv i objs K => vc_Elit hP x cv i objs K) hK⟩
end
end Vc
end
section
open PySem PySem.W PyProof.Rows PySem.Calls
set_option autoImplicit false
set_option maxRecDepth 100000
namespace Vc
local macro_rules | `(tactic| walk_at "vs") => `(tactic| first | exact True.intro | exact rfl | omega | (simp only [intBits_nat]; omega) | (simp only [lim, List.length]; omega) | exact IntMulOk.of_left (by decide))
local macro_rules | `(tactic| walk_at "vg") => `(tactic| ((repeat ((conv => whnf); (try dsimp only [List.set, setvs]); refine And.intro (by walk_at "vs") ?_)); (conv => whnf); (try dsimp only [List.set, setvs])))

section
variable {L : LawP} {ℓ : Nat} {args : List SV} {objs : List AO} {K : SV → List AO → Prop}
theorem vpoly_step {P m n : Nat} {R : Fl → St → Prop} (hP : bl P = n + 1) (hm : m ≤ 64) {a c d : SV}
    (h1 : m ≠ n → ∀ x y, R .next ⟨[.int P, a, .int m, x, y], objs⟩) (h2 : m = n → ∀ x y, R (.ret (.int m)) ⟨[.int P, a, .int m, x, y], objs⟩) :
    wpSs (cT L ℓ) (.cons (.set 3 (.bin .LShift (.lit (.int 1)) (.var 2))) (.cons (.set 4 (.bin .Mult (.var 3) (.lit (.int 2)))) (.cons (.ite (.cmp2 (.var 3) .LtE (.var 0) .Lt (.var 4)) (.cons (.ret (.var 2)) .nil) .nil) .nil)))
      ⟨[.int P, a, .int m, c, d], objs⟩ R := by
  have hp : P ≠ 0 := by rintro rfl; rw [bl_zero] at hP; omega
  have i1 : Builtin.Int.intBits 1 = 1 := rfl
  have g1 : 2 ^ n ≤ P := lt_bl.mp (by omega)
  have g2 : P < 2 ^ (n + 1) := bl_le.mp (by omega)
  walk_at "vg"
  rw [one_nat, shl_nat, Nat.one_mul]
  refine ⟨IntMulOk.of_right (by decide), ?_⟩
  walk_at "vg"
  have hlt : ∀ q r : Nat, q < r → 2 ^ q * 2 ≤ 2 ^ r := fun q r h => by
    rw [← Nat.pow_succ]; exact Nat.pow_le_pow_right (by decide) h
  by_cases hmn : m ≤ n
  · have hc : ((2 ^ m : Nat) : Int) ≤ (P : Int) := by
      have := Nat.pow_le_pow_right (n := 2) (by decide) hmn
      exact_mod_cast Nat.le_trans this g1
    rw [decide_eq_true hc]
    walk_at "vg"
    by_cases he : m = n
    · have hc2 : (P : Int) < ((2 ^ m : Nat) : Int) * 2 := by
        subst he
        rw [Nat.pow_succ] at g2
        exact_mod_cast g2
      rw [decide_eq_true hc2]
      walk_at "vg"
      exact h2 he _ _
    · have hc2 : ¬ (P : Int) < ((2 ^ m : Nat) : Int) * 2 := by
        have := hlt m n (by omega)
        have : (2 ^ m * 2 : Nat) ≤ P := Nat.le_trans this g1
        have : ((2 ^ m * 2 : Nat) : Int) ≤ (P : Int) := by exact_mod_cast this
        rw [Int.natCast_mul] at this
        omega
      rw [decide_eq_false hc2]
      walk_at "vg"
      exact h1 he _ _
  · have hc : ¬ ((2 ^ m : Nat) : Int) ≤ (P : Int) := by
      have := Nat.pow_le_pow_right (n := 2) (by decide) (show n + 1 ≤ m by omega)
      have : P < 2 ^ m := Nat.lt_of_lt_of_le g2 this
      have : (P : Int) < ((2 ^ m : Nat) : Int) := by exact_mod_cast this
      omega
    rw [decide_eq_false hc]
    walk_at "vg"
    exact h1 (by omega) _ _

theorem vpoly_list {P n : Nat} {a : SV} {R : Fl → St → Prop} (hP : bl P = n + 1) : ∀ (ms : List Nat), (∀ m ∈ ms, m ≤ 64) → n ∈ ms → (∀ x y, R (.ret (.int n)) ⟨[.int P, a, .int n, x, y], objs⟩) → ∀ x c d,
    forW [2] (wpSs (cT L ℓ) (.cons (.set 3 (.bin .LShift (.lit (.int 1)) (.var 2))) (.cons (.set 4 (.bin .Mult (.var 3) (.lit (.int 2)))) (.cons (.ite (.cmp2 (.var 3) .LtE (.var 0) .Lt (.var 4)) (.cons (.ret (.var 2)) .nil) .nil) .nil)))) (fun _ => True) (natsV ms) ⟨[.int P, a, x, c, d], objs⟩ R
  | [], _, hn, _, _, _, _ => by simp at hn
  | m :: ms, h64, hn, h, x, c, d => by
    refine ⟨True.intro, ?_⟩
    show wpSs _ _ ⟨[.int P, a, .int m, c, d], objs⟩ _
    refine vpoly_step hP (h64 m (by simp)) (fun hne y z => ?_) (fun he y z => ?_)
    · refine vpoly_list hP ms (fun m hm => h64 m (by simp [hm])) ?_ h _ _ _
      rcases List.mem_cons.mp hn with e | e
      · exact (hne e.symm).elim
      · exact e
    · subst he; exact h y z

theorem vc_verifyPoly (h : spVPoly args objs K) : ∃ P, args = [.int P] ∧ wpSs (cT L ℓ) x_verifyPoly ⟨vars0 args 5, objs⟩ fun fl σ => K (retV fl) σ.objs := by
  unfold spVPoly at h
  split at h
  · rename_i P
    obtain ⟨n, ⟨h0, hn, hP⟩, h⟩ := h
    refine ⟨P, rfl, ?_⟩
    have e : P = ((P.toNat : Nat) : Int) := by omega
    rw [e]
    generalize hs : SV.str (Str.ofString "The degree of the polynomial must be 8, 16, 24, 32 or 64") = msg
    have hx : x_verifyPoly = (.cons (.set 1 (.lit msg)) (.cons
      (.fr [2] (.tup (.cons (.lit (.int 8)) (.cons (.lit (.int 16)) (.cons (.lit (.int 24)) (.cons (.lit (.int 32)) (.cons (.lit (.int 64)) .nil)))))) (.cons (.set 3 (.bin .LShift (.lit (.int 1)) (.var 2))) (.cons (.set 4 (.bin .Mult (.var 3) (.lit (.int 2)))) (.cons (.ite (.cmp2 (.var 3) .LtE (.var 0) .Lt (.var 4)) (.cons (.ret (.var 2)) .nil) .nil) .nil)))) (.cons .bad .nil))) := by rw [← hs]; rfl
    rw [hx]
    show 5 ≤ lim ∧ forW _ _ _ (natsV [8, 16, 24, 32, 64]) ⟨[.int (P.toNat : Nat), msg, .unb, .unb, .unb], objs⟩ _
    refine ⟨by decide, ?_⟩
    refine vpoly_list hP _ (by decide) ?_ (fun x y => h) _ _ _
    rcases hn with rfl | rfl | rfl | rfl <;> simp
  · exact h.elim
end
end Vc
end
section
open PySem PySem.W PyProof.Rows PySem.Calls
set_option autoImplicit false
set_option maxRecDepth 100000
namespace Vc
local macro_rules | `(tactic| walk_at "vs") => `(tactic| first | exact True.intro | exact rfl | omega | (simp only [intBits_nat]; omega) | (simp only [lim, List.length]; omega) | exact IntMulOk.of_left (by decide))
local macro_rules | `(tactic| walk_at "vg") => `(tactic| ((repeat ((conv => whnf); (try dsimp only [List.set, setvs]); refine And.intro (by walk_at "vs") ?_)); (conv => whnf); (try dsimp only [List.set, setvs])))

section
variable {L : LawP} {ℓ : Nat} {args : List SV} {objs : List AO} {K : SV → List AO → Prop}
theorem or_bit (y b : Nat) (h : b < 2) : (y * 2 ||| b) = 2 * y + b := by
  rw [Nat.mul_comm]
  have : b = 0 ∨ b = 1 := by omega
  rcases this with rfl | rfl
  · simp
  · apply Nat.eq_of_testBit_eq
    intro i
    cases i with
    | zero => simp
    | succ i => 
      rw [Nat.testBit_or, Nat.testBit_succ, Nat.testBit_succ, Nat.testBit_succ]
      simp
      congr 1; omega
theorem and_one (u : Nat) : Builtin.bitAnd (u : Int) 1 = ((u % 2 : Nat) : Int) := by rw [bitAnd_m1]; omega
theorem vc_bitrev (h : spRev args objs K) : ∃ x n, args = [.int x, .int n] ∧ wpSs (cT L ℓ) x_bitrev ⟨vars0 args 4, objs⟩ fun fl σ => K (retV fl) σ.objs := by
  unfold spRev at h
  split at h
  · rename_i x n
    obtain ⟨⟨h1, h2, h3, h4⟩, h⟩ := h
    refine ⟨x, n, rfl, ?_⟩
    obtain ⟨x, rfl⟩ := Int.eq_ofNat_of_zero_le h1
    obtain ⟨n, rfl⟩ := Int.eq_ofNat_of_zero_le h3
    rw [Int.toNat_natCast] at h h2
    rw [Int.toNat_natCast] at h
    walk_at "vg"
    refine ⟨by rw [rng_len]; simp only [lim]; omega, ?_⟩
    refine for_ok (fun i σ => ∃ (u y : Nat) (z : SV), revA (n - i) u y = prev n x ∧ y < 2 ^ i ∧ i ≤ n ∧ σ = ⟨[.int u, .int n, .int y, z], objs⟩) ⟨x, 0, .unb, rfl, by decide, by omega, rfl⟩ (fun _ _ _ => rng_small (by omega)) ?_ ?_
    · rintro i w σ R hw ⟨u, y, z, e1, e2, e3, rfl⟩ hn _ _ _
      obtain ⟨hi, rfl⟩ := rng_get hw
      have hb := bl_le.mpr e2
      walk_at "vg"
      refine hn _ ⟨u / 2, 2 * y + u % 2, .int i, ?_, ?_, by omega, ?_⟩
      · rw [← e1, show n - i = (n - (i + 1)) + 1 by omega]; rfl
      · rw [Nat.pow_succ]; omega
      · rw [and_one, one_nat, shl_nat, shr_nat, bitOr_nat, Nat.pow_one, or_bit y _ (Nat.mod_lt _ (by decide))]
    · rintro σ ⟨u, y, z, e1, e2, e3, rfl⟩
      rw [rng_len] at *
      rw [Nat.sub_self] at e1
      walk_at "vg"
      rw [show y = prev n x from e1]
      exact h
  · exact h.elim

theorem vc_verifyParams (hℓ : 1 ≤ ℓ) (h : spParams args objs K) : ∃ x a b, args = [.int x, .int a, .int b] ∧ wpSs (cT L ℓ) x_verifyParams ⟨vars0 args 5, objs⟩ fun fl σ => K (retV fl) σ.objs := by
  unfold spParams at h
  split at h
  · rename_i P a b
    obtain ⟨n, hp, h⟩ := h
    have hn : n ≤ 64 := by have := hp.2.hn; omega
    refine ⟨P, a, b, rfl, ?_⟩
    walk_at "vg"
    refine ⟨hℓ, n, hp, ?_⟩
    walk_at "vg"
    refine ⟨⟨by omega, ?_⟩, ?_⟩
    · rw [one_nat, intBits_nat, bl_one]; omega
    walk_at "vg"
    rw [mask_low, mask_low]
    exact h
  · exact h.elim

/-- lambda rows, row: rows + [row ^ x for x in rows] -/
def x_lam : X := .bin .Add (.var 0) (.comp false [(Str.ofString "x", 2), (Str.ofString "row", 1)] (.bin .BitXor (.var 1) (.var 2)) [2] (.var 0) .nop)
def nm_lam : List (Str × Nat) := [(Str.ofString "rows", 0), (Str.ofString "row", 1)]
def ps_lam : List Str := [Str.ofString "rows", Str.ofString "row"]
theorem natsV_get {ns : List Nat} {i : Nat} {x : SV} (h : (natsV ns)[i]? = some x) : ∃ y, ns[i]? = some y ∧ x = .int (y : Nat) := by
  unfold natsV at h
  rw [List.getElem?_map] at h
  obtain ⟨y, hy, e⟩ := Option.map_eq_some_iff.mp h
  exact ⟨y, hy, e.symm⟩
theorem vc_lam (h : spLam args objs K) : ∃ l r, args = [.lst l, .int r] ∧ wpE (cT L ℓ) x_lam ⟨vars0 args 3, objs⟩ fun v σ => K v σ.objs := by
  unfold spLam at h
  split at h
  · rename_i l r
    obtain ⟨ns, m, ⟨rfl, rfl, hl⟩, h⟩ := h
    refine ⟨_, _, rfl, ?_⟩
    generalize hN : natsV ns = N at *
    have hlen : N.length = ns.length := by rw [← hN]; simp [natsV]
    walk_at "vg"
    refine comp_okW (fun i acc σ => acc = natsV ((ns.take i).map (m ^^^ ·)) ∧ ∃ z, σ = ⟨[.lst N, .int m, z], objs⟩) ⟨rfl, _, rfl⟩ (fun _ _ _ _ => True.intro) ?_ ?_
    · rintro i x acc σ R hx ⟨rfl, z, rfl⟩ hn
      rw [← hN] at hx
      obtain ⟨y, hy, rfl⟩ := natsV_get hx
      walk_at "vg"
      refine hn _ _ ⟨?_, .int y, rfl⟩
      rw [bitXor_nat, List.take_add_one, hy]
      simp [natsV]
    · rintro acc σ ⟨rfl, z, rfl⟩
      rw [hlen, List.take_length]
      refine ⟨by simp [natsV, lim]; omega, ?_⟩
      conv => whnf
      refine ⟨by rw [hlen]; simp [natsV, lim]; omega, ?_⟩
      rw [← hN]
      have : natsV ns ++ natsV (ns.map (m ^^^ ·)) = natsV (ns ++ ns.map (m ^^^ ·)) := by simp [natsV]
      rw [this]
      exact h
  · exact h.elim
end
end Vc
end
section
open PySem PySem.W PyProof.Rows PySem.Calls
set_option autoImplicit false
set_option maxRecDepth 100000
namespace Vc
local macro_rules | `(tactic| walk_at "vs") => `(tactic| first | exact True.intro | exact rfl | omega | (simp only [intBits_nat]; omega) | (simp only [lim, List.length]; omega) | exact IntMulOk.of_left (by decide))
local macro_rules | `(tactic| walk_at "vg") => `(tactic| ((repeat ((conv => whnf); (try dsimp only [List.set, setvs]); refine And.intro (by walk_at "vs") ?_)); (conv => whnf); (try dsimp only [List.set, setvs])))

theorem byte_step {P n v w : Nat} (hP : bl P = n + 1) (hn : 0 < n) (hw : v % 2 ^ n = w) : (if v.testBit (n - 1) then v * 2 ^ 1 ^^^ P % 2 ^ n else v * 2 ^ 1) % 2 ^ n = prest (w * 2 ^ 1) P := by
  have hp : P ≠ 0 := by rintro rfl; rw [bl_zero] at hP; omega
  have hwl : w < 2 ^ n := by rw [← hw]; exact Nat.mod_lt _ (Nat.two_pow_pos n)
  have hb : v.testBit (n - 1) = w.testBit (n - 1) := by
    rw [← hw, Nat.testBit_mod_two_pow]; simp [show n - 1 < n by omega]
  have e2 : (v * 2 ^ 1) % 2 ^ n = (w * 2 ^ 1) % 2 ^ n := by rw [← hw, Nat.mod_mul_mod]
  have ep : 2 ^ n = 2 * 2 ^ (n - 1) := by rw [← Nat.pow_succ']; congr 1; omega
  rw [hb]
  cases h : w.testBit (n - 1) with
  | false =>
    have hlt : w < 2 ^ (n - 1) := by
      refine Nat.lt_pow_two_of_testBit _ fun i hi => ?_
      by_cases e : i = n - 1
      · rw [e, h]
      · exact Nat.testBit_lt_two_pow (Nat.lt_of_lt_of_le hwl (Nat.pow_le_pow_right (by decide) (by omega)))
    rw [if_neg (by decide), e2, Nat.mod_eq_of_lt (by omega), prest_self hp]
    have := bl_le.mpr (show w * 2 ^ 1 < 2 ^ n by omega)
    omega
  | true =>
    have hge : 2 ^ (n - 1) ≤ w := Nat.ge_two_pow_of_testBit h
    rw [if_pos rfl, Nat.xor_mod_two_pow, e2, Nat.mod_mod, ← Nat.xor_mod_two_pow]
    have b1 : bl (w * 2 ^ 1) = n + 1 := by
      have h1 : bl (w * 2 ^ 1) ≤ n + 1 := bl_le.mpr (by rw [Nat.pow_succ]; omega)
      have h2 : n < bl (w * 2 ^ 1) := lt_bl.mpr (by omega)
      omega
    have h0 : w * 2 ^ 1 ≠ 0 := by have := Nat.two_pow_pos (n - 1); omega
    have hlt := bl_xor_lt (a := w * 2 ^ 1) (b := P) (by rw [b1, hP]) h0
    have hx : w * 2 ^ 1 ^^^ P < 2 ^ n := bl_le.mp (by omega)
    rw [Nat.mod_eq_of_lt hx]
    conv => rhs; unfold prest
    rw [dif_pos ⟨by omega, hp⟩, b1, hP, Nat.sub_self, Nat.pow_zero, Nat.mul_one, prest_self hp (by omega)]
theorem and_bit {v k : Nat} : (v &&& 1 * 2 ^ k ≠ 0) ↔ v.testBit k = true := by
  rw [Nat.one_mul]
  constructor
  · intro h
    cases e : v.testBit k with
    | true => rfl
    | false =>
      exfalso; apply h
      apply Nat.eq_of_testBit_eq
      intro i
      rw [Nat.testBit_and, Nat.testBit_two_pow, Nat.zero_testBit]
      by_cases hi : k = i
      · subst hi; simp [e]
      · simp [hi]
  · intro h e
    have := congrArg (fun x => x.testBit k) e
    simp [Nat.testBit_and, h] at this

section
variable {L : LawP} {ℓ : Nat} {args : List SV} {objs : List AO} {K : SV → List AO → Prop}
theorem vc_bytecrc (h : spByte args objs K) : ∃ x a b, args = [.int x, .int a, .int b] ∧ wpSs (cT L ℓ) x_bytecrc ⟨vars0 args 5, objs⟩ fun fl σ => K (retV fl) σ.objs := by
  unfold spByte at h
  split at h
  · rename_i c p n
    obtain ⟨P, ⟨h1, h2, h3, ⟨hn, hP⟩, rfl⟩, h⟩ := h
    refine ⟨_, _, _, rfl, ?_⟩
    obtain ⟨c, rfl⟩ := Int.eq_ofNat_of_zero_le h1
    obtain ⟨n, rfl⟩ := Int.eq_ofNat_of_zero_le h3
    simp only [Int.toNat_natCast] at *
    have hc : c < 2 ^ n := by rw [pow_int] at h2; exact_mod_cast h2
    have hp : P ≠ 0 := by rintro rfl; rw [bl_zero] at hP; omega
    have hn8 : 8 ≤ n ∧ n ≤ 32 := by omega
    have i1 : Builtin.Int.intBits 1 = 1 := rfl
    have hbp : bl (P % 2 ^ n) ≤ n := bl_le.mpr (Nat.mod_lt _ (Nat.two_pow_pos n))
    walk_at "vg"
    refine ⟨by decide, ?_⟩
    refine for_ok (fun i σ => ∃ (v : Nat) (z : SV), v % 2 ^ n = prest (c * 2 ^ i) P ∧ bl v ≤ n + i ∧ σ = ⟨[.int v, .int (P % 2 ^ n : Nat), .int n, .int ((1 * 2 ^ (n - 1) : Nat)), z], objs⟩)
      ⟨c, .unb, by rw [Nat.pow_zero, Nat.mul_one, Nat.mod_eq_of_lt hc, prest_self hp (by have := bl_le.mpr hc; omega)], bl_le.mpr hc, ?_⟩ (fun _ _ _ => rng_small (k := 8) (by decide)) ?_ ?_
    · rw [one_nat, show (n : Int) - ((1 : Nat) : Int) = ((n - 1 : Nat) : Int) by omega, shl_nat]; rfl
    · rintro i w σ R hw ⟨v, z, e1, e2, rfl⟩ hnx _ _ _
      have hi : i < 8 := (rng_get (k := 8) hw).1
      have st := byte_step hP (by omega) e1
      rw [prest_shift hp, Nat.mul_assoc, ← Nat.pow_add] at st
      walk_at "vg"
      rw [bitAnd_nat]
      by_cases hb : v.testBit (n - 1) = true
      · have : decide (((v &&& 1 * 2 ^ (n - 1) : Nat) : Int) ≠ 0) = true := by
          rw [decide_eq_true_eq]
          have := and_bit.mpr hb
          omega
        refine drec (fun _ => ?_) (fun hc => (hc this).elim)
        walk_at "vg"
        refine hnx _ ⟨v * 2 ^ 1 ^^^ P % 2 ^ n, w, ?_, ?_, ?_⟩
        · rw [if_pos hb] at st; exact st
        · exact bl_xor_le (bl_shift_le (by omega)) (by omega)
        · rw [one_nat, shl_nat, bitXor_nat]
      · have : ¬ decide (((v &&& 1 * 2 ^ (n - 1) : Nat) : Int) ≠ 0) = true := by
          rw [decide_eq_true_eq]
          intro hh
          exact hb (and_bit.mp (by omega))
        refine drec (fun hc => (this hc).elim) (fun _ => ?_)
        walk_at "vg"
        refine hnx _ ⟨v * 2 ^ 1, w, ?_, ?_, ?_⟩
        · rw [if_neg hb] at st; exact st
        · exact bl_shift_le (by omega)
        · rw [one_nat, shl_nat]
    · rintro σ ⟨v, z, e1, e2, rfl⟩
      have e1 : v % 2 ^ n = prest (c * 2 ^ 8) P := e1
      walk_at "vg"
      rw [mask_int, e1]
      exact h
  · exact h.elim
theorem vc_bytecrc_r (h : spByteR args objs K) : ∃ x a b, args = [.int x, .int a, .int b] ∧ wpSs (cT L ℓ) x_bytecrc_r ⟨vars0 args 5, objs⟩ fun fl σ => K (retV fl) σ.objs := by
  unfold spByteR at h
  split at h
  · rename_i c p n
    obtain ⟨P, ⟨h1, h2, h3, ⟨hn, hP⟩, rfl⟩, h⟩ := h
    refine ⟨_, _, _, rfl, ?_⟩
    obtain ⟨c, rfl⟩ := Int.eq_ofNat_of_zero_le h1
    obtain ⟨n, rfl⟩ := Int.eq_ofNat_of_zero_le h3
    simp only [Int.toNat_natCast] at *
    have hc : c < 2 ^ 8 := by rw [pow_int] at h2; exact_mod_cast h2
    have hn8 : 8 ≤ n ∧ n ≤ 32 := by omega
    have i1 : Builtin.Int.intBits 1 = 1 := rfl
    have hlt := (biter_prev hP 8 c (Nat.lt_of_lt_of_le hc (Nat.pow_le_pow_right (by decide) (by omega)))).2
    have ho : prev (n + 1) P / 2 = prev n (P % 2 ^ n) := by rw [← other_eq hP, Nat.or_div_two]; simp
    walk_at "vg"
    refine ⟨by decide, ?_⟩
    refine for_ok (fun i σ => ∃ z : SV, σ = ⟨[.int (biter (prev (n + 1) P) i c : Nat), .int (prev n (P % 2 ^ n) : Nat), .int n, z, .unb], objs⟩)
      ⟨.unb, rfl⟩ (fun _ _ _ => rng_small (k := 8) (by decide)) ?_ ?_
    · rintro i w σ R hw ⟨z, rfl⟩ hnx _ _ _
      rw [biter_succ] at hnx
      generalize biter (prev (n + 1) P) i c = v at *
      walk_at "vg"
      rw [and_one]
      by_cases hb : v % 2 = 1
      · have : decide (((v % 2 : Nat) : Int) ≠ 0) = true := by rw [decide_eq_true_eq]; omega
        refine drec (fun _ => ?_) (fun hc => (hc this).elim)
        walk_at "vg"
        refine hnx _ ⟨w, ?_⟩
        rw [one_nat, shr_nat, bitXor_nat]
        unfold bstep
        rw [if_pos hb, xor_half, ho]
      · have : ¬ decide (((v % 2 : Nat) : Int) ≠ 0) = true := by rw [decide_eq_true_eq]; omega
        refine drec (fun hc => (this hc).elim) (fun _ => ?_)
        walk_at "vg"
        refine hnx _ ⟨w, ?_⟩
        rw [one_nat, shr_nat]
        unfold bstep
        rw [if_neg hb]
    · rintro σ ⟨z, rfl⟩
      show wpSs _ _ ⟨[.int (biter (prev (n + 1) P) 8 c : Nat), _, _, _, _], _⟩ _
      walk_at "vg"
      rw [mask_int, Nat.mod_eq_of_lt hlt]
      exact h
  · exact h.elim
end
end Vc
end
section
open PySem PySem.W PyProof.Rows PySem.Calls
set_option autoImplicit false
set_option maxRecDepth 100000
namespace Vc
local macro_rules | `(tactic| walk_at "vs") => `(tactic| first | exact True.intro | exact rfl | omega | (simp only [intBits_nat]; omega) | (simp only [lim, List.length]; omega) | exact IntMulOk.of_left (by decide))
local macro_rules | `(tactic| walk_at "vg") => `(tactic| ((repeat ((conv => whnf); (try dsimp only [List.set, setvs]); refine And.intro (by walk_at "vs") ?_)); (conv => whnf); (try dsimp only [List.set, setvs])))

theorem setF_lookup {f : Nat} {v : SV} : ∀ {fs : List (Nat × SV)} {k : Nat}, (setF f v fs).lookup k = if k = f then some v else fs.lookup k
  | [], k => by
    simp only [setF, List.lookup_cons, List.lookup_nil]
    by_cases h : k = f
    · subst h; simp
    · simp [h, beq_eq_false_iff_ne.mpr h]
  | (f', v') :: r, k => by
    unfold setF
    by_cases hf : f' = f
    · subst hf
      rw [if_pos rfl, List.lookup_cons, List.lookup_cons]
      by_cases h : k = f'
      · subst h; simp
      · simp [h, beq_eq_false_iff_ne.mpr h]
    · rw [if_neg hf, List.lookup_cons, List.lookup_cons, setF_lookup (fs := r)]
      by_cases h : k = f
      · subst h
        rw [if_pos rfl, if_pos rfl]
        have : (k == f') = false := by rw [beq_eq_false_iff_ne]; exact fun e => hf e.symm
        rw [this]
      · rw [if_neg h, if_neg h]
theorem setF_len {f : Nat} {v w : SV} : ∀ {fs : List (Nat × SV)}, fs.lookup f = some w → (setF f v fs).length = fs.length
  | [], h => by simp at h
  | (f', v') :: r, h => by
    unfold setF
    by_cases hf : f' = f
    · rw [if_pos hf]; rfl
    · rw [if_neg hf, List.length_cons, List.length_cons]
      rw [List.lookup_cons, show (f == f') = false from by rw [beq_eq_false_iff_ne]; exact fun e => hf e.symm] at h
      rw [setF_len h]
theorem setF_len' {f : Nat} {v : SV} : ∀ {fs : List (Nat × SV)}, (setF f v fs).length ≤ fs.length + 1
  | [] => by simp [setF]
  | (f', v') :: r => by
    unfold setF
    split
    · simp
    · have := setF_len' (f := f) (v := v) (fs := r)
      simp only [List.length_cons]; omega

theorem IsCrc.keep {objs objs' : List AO} {i j : Nat} {g : Cfg} {v : Nat} (h : IsCrc objs i g v) (k : KeepsBut j objs objs') (hij : i ≠ j) : IsCrc objs' i g v := by
  obtain ⟨fs, h0, r⟩ := h
  exact ⟨fs, by rw [k.2 i (List.getElem?_eq_some_iff.mp h0).1 hij]; exact h0, r⟩
theorem IsCrc.lt {objs : List AO} {i : Nat} {g : Cfg} {v : Nat} (h : IsCrc objs i g v) : i < objs.length := by
  obtain ⟨fs, h0, r⟩ := h
  exact (List.getElem?_eq_some_iff.mp h0).1
theorem IsCrc.app {objs r : List AO} {i : Nat} {g : Cfg} {v : Nat} (h : IsCrc objs i g v) : IsCrc (objs ++ r) i g v := by
  have := h.lt
  obtain ⟨fs, h0, r⟩ := h
  exact ⟨fs, by rw [List.getElem?_append_left (List.getElem?_eq_some_iff.mp h0).1]; exact h0, r⟩

section
variable {L : LawP} {ℓ : Nat} {args : List SV} {objs : List AO} {K : SV → List AO → Prop}
theorem intsOf_map : ∀ l : List Nat, intsOf (l.map fun (x : Nat) => SV.int x) = some (l.map fun (x : Nat) => (x : Int))
  | [] => rfl
  | x :: r => by
    rw [List.map_cons, intsOf, intsOf_map r]; rfl
theorem vc_digest0 {i v : Nat} {g : Cfg} {K : Fl → St → Prop} (hc : IsCrc objs i g v) (hn : g.n ≤ 64) (h : ∀ vars e, K (.ret (.bytes (toBytesL (g.n / 8) v).reverse)) ⟨vars, objs ++ [e]⟩) :
    wpSs (cT L ℓ) x_Crc_digest ⟨vars0 [.ref i] 4, objs⟩ K := by
  obtain ⟨fs, h0, h1, f0, f1, f2, f3, f4, f5, f6, f7⟩ := hc
  conv => whnf
  rw [h0]
  conv => whnf
  rw [f0]
  conv => whnf
  rw [h0]
  conv => whnf
  rw [f7]
  walk_at "vg"
  refine wh_ok (fun k σ => ∃ m u D, k = m ∧ D ++ toBytesL m u = toBytesL (g.n / 8) v ∧ D.length + m = g.n / 8 ∧ σ = ⟨[.ref i, .int (m : Nat), .int (u : Nat), .ref objs.length], objs ++ [.list (D.map fun (x : Nat) => .int x)]⟩) (g.n / 8) ⟨g.n / 8, v, [], rfl, rfl, by simp, rfl⟩ ?_
  rintro k σ R ⟨m, u, D, rfl, hD, hl, rfl⟩ hnext _ _ _
  walk_at "vg"
  refine drec (fun hc => ?_) (fun hc => ?_)
  · have hk : 0 < k := by rw [decide_eq_true_eq] at hc; omega
    have ho : (objs ++ [AO.list (D.map fun (x : Nat) => SV.int x)])[objs.length]? = some (AO.list (D.map fun (x : Nat) => SV.int x)) := get_last _ _
    conv => whnf
    refine ⟨by show (match (objs ++ [AO.list (D.map fun (x : Nat) => SV.int x)])[objs.length]? with | some (.list _) => True | _ => False); rw [ho]; trivial, ?_⟩
    conv => whnf
    rw [ho]
    walk_at "vg"
    refine ⟨by rw [List.length_map]; simp only [lim]; omega, trivial, ?_⟩
    rw [set_last]
    walk_at "vg"
    obtain ⟨k, rfl⟩ : ∃ j, k = j + 1 := ⟨k - 1, by omega⟩
    refine hnext k _ (Nat.lt_succ_self k) ⟨k, u / 256, D ++ [u % 256], rfl, ?_, by simp; omega, ?_⟩
    · rw [← hD, List.append_assoc]; rfl
    · rw [show Builtin.bitAnd (u : Int) 255 = ((u % 256 : Nat) : Int) from bitAnd_m8 _, show (u : Int).fdiv (2 ^ (8 : Int).toNat) = ((u / 256 : Nat) : Int) from by rw [show (8 : Int) = ((8 : Nat) : Int) from rfl, shr_nat], List.map_append, show ((k + 1 : Nat) : Int) - 1 = (k : Int) by omega]
      rfl
  · have hk : k = 0 := by
      by_cases e : k = 0
      · exact e
      · exfalso; apply hc; rw [decide_eq_true_eq]; omega
    subst hk
    have hD' : D = toBytesL (g.n / 8) v := by simpa [toBytesL] using hD
    have ho : ∀ l, (objs ++ [AO.list l])[objs.length]? = some (AO.list l) := fun l => get_last _ _
    conv => whnf
    refine ⟨by show (match (objs ++ [AO.list (D.map fun (x : Nat) => SV.int x)])[objs.length]? with | some (.list _) => True | _ => False); rw [ho]; trivial, ?_⟩
    conv => whnf
    rw [ho]
    walk_at "vg"
    refine ⟨by rw [List.length_map]; simp only [lim]; omega, trivial, ?_⟩
    rw [set_last]
    conv => whnf
    have e : (lOf (objs ++ [AO.list (D.map fun (x : Nat) => SV.int x).reverse]) (SV.ref objs.length)).bind intsOf = some (D.reverse.map fun (x : Nat) => (x : Int)) := by
      show (match (objs ++ [AO.list (D.map fun (x : Nat) => SV.int x).reverse])[objs.length]? with | some (.list l) => some l | _ => none).bind intsOf = _
      rw [ho]
      show intsOf _ = _
      rw [← List.map_reverse, intsOf_map]
    show (match (lOf (objs ++ [AO.list (D.map fun (x : Nat) => SV.int x).reverse]) (SV.ref objs.length)).bind intsOf with | some ns => _ | none => False)
    rw [e]
    refine ⟨fun x hx => ?_, by simp [lim]; omega, ?_⟩
    · obtain ⟨y, hy, rfl⟩ := List.mem_map.mp hx
      have := toBytesL_lt (g.n / 8) v y (by rw [← hD']; simpa using hy)
      omega
    · have e2 : (D.reverse.map fun (x : Nat) => (x : Int)).map Int.toNat = (toBytesL (g.n / 8) v).reverse := by
        rw [List.map_map, ← hD']; simp [Function.comp_def]
      show K (.ret (.bytes ((D.reverse.map fun (x : Nat) => (x : Int)).map Int.toNat))) _
      rw [e2]
      exact h _ _
theorem keeps_app (objs r : List AO) (i : Nat) : KeepsBut i objs (objs ++ r) := ⟨by simp, fun j hj _ => List.getElem?_append_left hj⟩
theorem vc_digest (h : spDigest args objs K) : ∃ i, args = [.ref i] ∧ wpSs (cT L ℓ) x_Crc_digest ⟨vars0 args 4, objs⟩ fun fl σ => K (retV fl) σ.objs := by
  unfold spDigest at h
  split at h
  · rename_i i
    obtain ⟨g, v, hn, hc, h⟩ := h
    exact ⟨i, rfl, vc_digest0 hc hn fun vars e => h _ (keeps_app _ _ _)⟩
  · exact h.elim

def x_fun0 : Ss := .cons (.ret (.call (.var 3) (.cons (.var 0) (.cons (.var 1) (.cons (.var 2) .nil))))) .nil
def x_fun1 : Ss := .cons (.ret (.bin .BitXor (.var 4) (.call (.var 3) (.cons (.var 0) (.cons (.bin .BitXor (.var 4) (.var 1)) (.cons (.var 2) .nil)))))) .nil
theorem sp_crc {k : Nat} {back : Bool} {n : Nat} (hk : k = crcNo back n) (hn : n = 8 ∨ n = 16 ∨ n = 24 ∨ n = 32) : depthT L k = 3 ∧ spT L k = spCrc k ∧ k < 1000 := by
  subst hk
  rcases hn with rfl | rfl | rfl | rfl <;> cases back <;> exact ⟨rfl, rfl, by decide⟩
theorem vc_fun0 (hℓ : 3 ≤ ℓ) (h : spFun0 args objs K) : ∃ a t k D c, args = [a, t, k, .bytes D, c] ∧ wpSs (cT L ℓ) x_fun0 ⟨vars0 [.bytes D, c, t, k] 4, objs⟩ fun fl σ => K (retV fl) σ.objs := by
  unfold spFun0 at h
  split at h
  · rename_i a t k D c
    obtain ⟨back, P, n, hp, h⟩ := h
    refine ⟨_, _, _, _, _, rfl, ?_⟩
    obtain ⟨e1, e2, e3⟩ := sp_crc (L := L) hp.hk hp.hn
    have ht := hp.ht
    rw [tabOf_eq] at ht
    subst ht
    walk_at "vg"
    show spT L k _ _ _
    rw [e2]
    exact ⟨back, P, n, hp, h⟩
  · exact h.elim
theorem vc_fun1 (hℓ : 3 ≤ ℓ) (h : spFun1 args objs K) : ∃ x a t k D c, args = [x, a, t, k, .bytes D, c] ∧ wpSs (cT L ℓ) x_fun1 ⟨vars0 [.bytes D, c, t, k, x] 5, objs⟩ fun fl σ => K (retV fl) σ.objs := by
  unfold spFun1 at h
  split at h
  · rename_i x a t k D c
    obtain ⟨back, P, n, hx, hp, h⟩ := h
    refine ⟨_, _, _, _, _, _, rfl, ?_⟩
    obtain ⟨e1, e2, e3⟩ := sp_crc (L := L) hp.hk hp.hn
    have ht := hp.ht
    rw [tabOf_eq] at ht
    subst ht
    obtain ⟨x, rfl⟩ := Int.eq_ofNat_of_zero_le hx.1
    obtain ⟨c, rfl⟩ := Int.eq_ofNat_of_zero_le hp.c0
    have hx1 : x < 2 ^ n := by have := hx.2; rw [pow_int] at this; exact_mod_cast this
    have hc1 : c < 2 ^ n := by have := hp.c1; rw [pow_int] at this; exact_mod_cast this
    simp only [Int.toNat_natCast] at h
    have hxc : x ^^^ c < 2 ^ n := Nat.xor_lt_two_pow hx1 hc1
    walk_at "vg"
    rw [bitXor_nat]
    show spT L k _ _ _
    rw [e2]
    refine ⟨back, P, n, ⟨hp.hk, hp.hn, hp.hP, hp.ht, hp.hD, by omega, ?_⟩, ?_⟩
    · rw [pow_int]; exact_mod_cast hxc
    · rw [Int.toNat_natCast]
      walk_at "vg"
      rw [bitXor_nat]
      exact h
  · exact h.elim

theorem vc_update (hℓ : 4 ≤ ℓ) (h : spUpdate args objs K) : ∃ i D, args = [.ref i, .bytes D] ∧ wpSs (cT L ℓ) x_Crc_update ⟨vars0 args 2, objs⟩ fun fl σ => K (retV fl) σ.objs := by
  unfold spUpdate at h
  split at h
  · rename_i i D
    obtain ⟨g, v, ok, hv, hD, hc, h⟩ := h
    refine ⟨_, _, rfl, ?_⟩
    have hic := hc
    obtain ⟨fs, h0, h1, f0, f1, f2, f3, f4, f5, f6, f7⟩ := hc
    have hi : i < objs.length := hic.lt
    have ea : (objs ++ [AO.inst 0 [(8, .bytes D)]])[i]? = some (.inst 1 fs) := by rw [List.getElem?_append_left hi]; exact h0
    have fin : ∀ w : Nat, w = g.step D v → K .none ((objs ++ [AO.inst 0 [(8, .bytes D)]]).set i (.inst 1 (setF 7 (.int w) fs))) := by
      rintro w rfl
      refine h _ ⟨by simp, fun j hj hne => ?_⟩ ⟨setF 7 (.int (g.step D v : Nat)) fs, ?_, ?_, ?_, ?_, ?_, ?_, ?_, ?_, ?_, ?_⟩
      · rw [List.getElem?_set_ne (Ne.symm hne), List.getElem?_append_left hj]
      · rw [List.getElem?_set_self (by simp; omega)]
      · rw [setF_len f7]; exact h1
      all_goals rw [setF_lookup]
      · exact f0
      · exact f1
      · exact f2
      · exact f3
      · exact f4
      · exact f5
      · exact f6
      · exact if_pos rfl
    walk_at "vg"
    rw [h0]
    conv => whnf
    rw [f5]
    conv => whnf
    rw [h0]
    conv => whnf
    rw [f7]
    unfold Cfg.clo
    by_cases hx : g.xor = 0
    · rw [if_pos hx]
      walk_at "vg"
      refine ⟨hℓ, ?_⟩
      show spT L 2030 _ _ _
      rw [show spT L 2030 = spFun0 from rfl]
      refine ⟨g.back, g.P, g.n, ⟨rfl, ok.n, ok.P, rfl, hD, by omega, by rw [pow_int]; exact_mod_cast hv⟩, ?_⟩
      rw [Int.toNat_natCast]
      walk_at "vg"
      rw [ea]
      walk_at "vg"
      refine fin _ ?_
      unfold Cfg.step
      rw [hx, Nat.zero_xor, Nat.zero_xor]
    · rw [if_neg hx]
      walk_at "vg"
      refine ⟨hℓ, ?_⟩
      show spT L 2041 _ _ _
      rw [show spT L 2041 = spFun1 from rfl]
      refine ⟨g.back, g.P, g.n, ⟨by omega, by rw [pow_int]; exact_mod_cast ok.xor⟩, ⟨rfl, ok.n, ok.P, rfl, hD, by omega, by rw [pow_int]; exact_mod_cast hv⟩, ?_⟩
      rw [Int.toNat_natCast, Int.toNat_natCast]
      walk_at "vg"
      rw [ea]
      walk_at "vg"
      exact fin _ rfl
  · exact h.elim
end
end Vc
end
section
open PySem PySem.W PyProof.Rows PySem.Calls
set_option autoImplicit false
set_option maxRecDepth 100000
namespace Vc
local macro_rules | `(tactic| walk_at "vs") => `(tactic| first | exact True.intro | exact rfl | omega | (simp only [intBits_nat]; omega) | (simp only [lim, List.length]; omega) | exact IntMulOk.of_left (by decide) | exact Nat.le_of_ble_eq_true rfl)
local macro_rules | `(tactic| walk_at "vg") => `(tactic| ((repeat ((conv => whnf); (try dsimp only [List.set, setvs]); refine And.intro (by walk_at "vs") ?_)); (conv => whnf); (try dsimp only [List.set, setvs])))

section
variable {L : LawP} {ℓ : Nat} {args : List SV} {objs : List AO} {K : SV → List AO → Prop}
theorem get_set {i : Nat} {x : AO} (h : i < objs.length) : (objs.set i x)[i]? = some x := List.getElem?_set_self h

/-- new, from its second line on -/
theorem vc_new {i : Nat} {g : Cfg} {v : Nat} {arg : SV} (hℓ : 5 ≤ ℓ) (ok : g.Ok) (hc : IsCrc objs i g v)
    (h : (arg = .none ∧ ∀ objs', KeepsBut objs.length objs objs' → IsCrc objs' objs.length g g.init → K (.ref objs.length) objs') ∨
      (∃ D, arg = .bytes D ∧ Octs D ∧ ∀ objs', KeepsBut objs.length objs objs' → IsCrc objs' objs.length g (g.step D g.init) → K (.ref objs.length) objs')) :
    wpSs (cT L ℓ) x_Crc_new ⟨[.ref i, arg, .ref objs.length], objs ++ [.inst 1 []]⟩ fun fl σ => K (retV fl) σ.objs := by
  have hi := hc.lt
  obtain ⟨fs, h0, h1, f0, f1, f2, f3, f4, f5, f6, f7⟩ := hc
  have ei : ∀ fs', (objs ++ [AO.inst 1 fs'])[i]? = some (.inst 1 fs) := fun fs' => by rw [List.getElem?_append_left hi]; exact h0
  have hne : arg ≠ .unb := by rcases h with ⟨rfl, _⟩ | ⟨D, rfl, _⟩ <;> simp
  walk_at "vg"
  rw [ei]
  conv => whnf
  rw [f5]
  conv => whnf
  rw [get_last]
  walk_at "vg"
  rw [set_last, ei]
  conv => whnf
  rw [f0]
  conv => whnf
  rw [get_last]
  walk_at "vg"
  rw [set_last, ei]
  conv => whnf
  rw [f1]
  conv => whnf
  rw [get_last]
  walk_at "vg"
  rw [set_last, ei]
  conv => whnf
  rw [f2]
  conv => whnf
  rw [get_last]
  walk_at "vg"
  rw [set_last, ei]
  conv => whnf
  rw [f6]
  conv => whnf
  rw [get_last]
  walk_at "vg"
  rw [set_last, ei]
  conv => whnf
  rw [f1]
  conv => whnf
  rw [get_last]
  walk_at "vg"
  rw [set_last, ei]
  conv => whnf
  rw [f4]
  conv => whnf
  rw [get_last]
  walk_at "vg"
  rw [set_last, ei]
  conv => whnf
  rw [f3]
  conv => whnf
  rw [get_last]
  walk_at "vg"
  rw [set_last]
  have nc : IsCrc (objs ++ [AO.inst 1 (setF 3 (.int g.P) (setF 4 (.bool g.back) (setF 7 (.int g.init) (setF 6 (tabOf g.back g.P g.n) (setF 2 (.int g.xor) (setF 1 (.int g.init) (setF 0 (.int (g.n / 8 : Nat)) (setF 5 g.clo []))))))))]) objs.length g g.init :=
    ⟨_, get_last _ _, Nat.le_of_ble_eq_true rfl, rfl, rfl, rfl, rfl, rfl, rfl, rfl, rfl⟩
  rcases h with ⟨rfl, h⟩ | ⟨D, rfl, hD, h⟩
  · walk_at "vg"
    exact h _ (keeps_app _ _ _) nc
  · walk_at "vg"
    rw [get_last]
    walk_at "vg"
    refine ⟨hℓ, ?_⟩
    rw [show spT L ((cT L ℓ).mi 2) = spUpdate from rfl]
    refine ⟨g, g.init, ok, ok.init, hD, nc, fun objs' hk hc' => ?_⟩
    walk_at "vg"
    refine h _ ⟨Nat.le_trans (by simp) hk.1, fun j hj hne => ?_⟩ hc'
    rw [hk.2 j (by simp; omega) hne, List.getElem?_append_left hj]

theorem set_crc {objs : List AO} {i : Nat} {g : Cfg} {v w : Nat} (hc : IsCrc objs i g v) : ∃ fs, objs[i]? = some (.inst 1 fs) ∧ fs.length ≤ 8 ∧ fs.lookup 7 = some (.int v) ∧ IsCrc (objs.set i (.inst 1 (setF 7 (.int w) fs))) i g w := by
  have hi := hc.lt
  obtain ⟨fs, h0, h1, f0, f1, f2, f3, f4, f5, f6, f7⟩ := hc
  refine ⟨fs, h0, h1, f7, setF 7 (.int w) fs, get_set hi, ?_, ?_, ?_, ?_, ?_, ?_, ?_, ?_, ?_⟩
  · rw [setF_len f7]; exact h1
  all_goals rw [setF_lookup]
  · exact f0
  · exact f1
  · exact f2
  · exact f3
  · exact f4
  · exact f5
  · exact f6
  · exact if_pos rfl

theorem vc_copy (hℓ : 6 ≤ ℓ) (h : spCopy args objs K) : ∃ i, args = [.ref i] ∧ wpSs (cT L ℓ) x_Crc_copy ⟨vars0 args 2, objs⟩ fun fl σ => K (retV fl) σ.objs := by
  unfold spCopy at h
  split at h
  · rename_i i
    obtain ⟨g, v, ok, hc, h⟩ := h
    refine ⟨_, rfl, ?_⟩
    have hic := hc
    have hi := hc.lt
    obtain ⟨fs, h0, h1, f0, f1, f2, f3, f4, f5, f6, f7⟩ := hc
    conv => whnf
    rw [h0]
    walk_at "vg"
    refine ⟨hℓ, ?_⟩
    rw [show spT L ((cT L ℓ).mi 0) = spNew from rfl]
    refine ⟨g, v, ok, hic, fun objs' hk hc' => ?_⟩
    have e' : objs'[i]? = some (.inst 1 fs) := by rw [hk.2 i hi (by omega)]; exact h0
    obtain ⟨fs', j0, j1, j7, jc⟩ := set_crc (w := v) hc'
    walk_at "vg"
    rw [e']
    conv => whnf
    rw [f7]
    conv => whnf
    rw [j0]
    walk_at "vg"
    refine h _ ⟨by rw [List.length_set]; exact hk.1, fun j hj hne => ?_⟩ jc
    rw [List.getElem?_set_ne (Ne.symm hne)]
    exact hk.2 j hj hne
  · exact h.elim

theorem clo_is (c : Cfg) : ∃ k caps, c.clo = .clo k caps := by
  unfold Cfg.clo
  split <;> exact ⟨_, _, rfl⟩
theorem vc_init (hℓ : 4 ≤ ℓ) (h : spInit args objs K) : ∃ i P a b c, args = [.ref i, .int P, .int a, .bool b, .int c] ∧ wpSs (cT L ℓ) x_Crc_init ⟨vars0 (args ++ [.bool true]) 9, objs⟩ fun fl σ => K (retV fl) σ.objs := by
  unfold spInit at h
  split at h
  · rename_i i P a back b
    obtain ⟨n, ⟨h0, hp⟩, hi, h⟩ := h
    refine ⟨_, _, _, _, _, rfl, ?_⟩
    obtain ⟨P, rfl⟩ := Int.eq_ofNat_of_zero_le h0
    have hlt : i < objs.length := (List.getElem?_eq_some_iff.mp hi).1
    have hn := hp.hn
    rw [Int.toNat_natCast] at hp h
    walk_at "vg"
    refine ⟨by show 2 ≤ ℓ; omega, ?_⟩
    rw [show spT L 15 = spParams from rfl]
    refine ⟨n, ⟨by omega, by rw [Int.toNat_natCast]; exact hp⟩, ?_⟩
    walk_at "vg"
    rw [hi]
    walk_at "vg"
    rw [get_set hlt]
    walk_at "vg"
    rw [List.set_set, get_set hlt]
    walk_at "vg"
    rw [List.set_set, get_set hlt]
    walk_at "vg"
    rw [List.set_set, get_set hlt]
    walk_at "vg"
    rw [List.set_set]
    refine ⟨hℓ, ?_⟩
    rw [show spT L 16 = spMkFun from rfl]
    refine ⟨⟨by omega, by omega, by omega, by omega, by rw [Int.toNat_natCast, Int.toNat_natCast]; exact hp⟩, ?_⟩
    simp only [Int.toNat_natCast]
    obtain ⟨kc, caps, ec⟩ := clo_is ⟨P, n, back, lowN n a, lowN n b⟩
    rw [ec]
    have et := tabOf_eq back P n
    generalize hT : tabOf back P n = T at *
    generalize tabL back P n = tl at et
    subst et
    walk_at "vg"
    rw [get_set hlt]
    walk_at "vg"
    rw [List.set_set, get_set hlt]
    walk_at "vg"
    rw [List.set_set, get_set hlt]
    conv => whnf
    rw [get_set hlt]
    walk_at "vg"
    rw [List.set_set]
    rw [← ec, ← hT]
    refine h _ ⟨by rw [List.length_set]; exact Nat.le_refl _, fun j hj hne => List.getElem?_set_ne (Ne.symm hne)⟩ ⟨_, get_set hlt, Nat.le_of_ble_eq_true rfl, ?_, rfl, rfl, rfl, rfl, rfl, rfl, rfl⟩
    have : ((n : Int)).fdiv 8 = ((n / 8 : Nat) : Int) := by
      rw [Int.fdiv_eq_ediv_of_nonneg _ (by decide)]; rfl
    rw [← this]; rfl
  · exact h.elim
end
end Vc
end
section
open PySem PySem.W PyProof.Rows PySem.Calls
set_option autoImplicit false
set_option maxRecDepth 100000
namespace Vc
def bytesV (Ds : List (List Nat)) : List SV := Ds.map .bytes
theorem step_lt {g : Cfg} (ok : g.Ok) {D : List Nat} {v : Nat} (hD : Octs D) (hv : v < 2 ^ g.n) : g.step D v < 2 ^ g.n :=
  Nat.xor_lt_two_pow ok.xor (crcv_phi ok.P hD.2 (Nat.xor_lt_two_pow ok.xor hv)).2
theorem KeepsBut.trans {i : Nat} {a b c : List AO} (h1 : KeepsBut i a b) (h2 : KeepsBut i b c) : KeepsBut i a c :=
  ⟨Nat.le_trans h1.1 h2.1, fun j hj hne => (h2.2 j (Nat.lt_of_lt_of_le hj h1.1) hne).trans (h1.2 j hj hne)⟩
/-- a thing behind the old ones is written -/
theorem KeepsBut.tail {i k : Nat} {a b c : List AO} (h1 : KeepsBut i a b) (h2 : KeepsBut k b c) (hk : a.length ≤ k) : KeepsBut i a c :=
  ⟨Nat.le_trans h1.1 h2.1, fun j hj hne => (h2.2 j (Nat.lt_of_lt_of_le hj h1.1) (by omega)).trans (h1.2 j hj hne)⟩
theorem cut_last {α : Type} (l : List α) : cut l none (some (-1)) = l.dropLast := by
  unfold cut
  rw [List.dropLast_eq_take]
  have : clipAt l.length (-1) = l.length - 1 := by
    unfold clipAt
    simp
    omega
  simp [this]
theorem lOf_ref {objs : List AO} {p : Nat} {l : List SV} (h : objs[p]? = some (.list l)) : lOf objs (.ref p) = some l := by
  show (match objs[p]? with | some (.list l) => some l | _ => none) = _
  rw [h]
theorem sub_ref {objs : List AO} {p j : Nat} {i : Int} {l : List SV} {x : SV} {K : SV → Prop} (hp : objs[p]? = some (.list l)) (hi : -(2 ^ 62) < i ∧ i < 2 ^ 62) (hj : idx l.length i = some j) (hx : l[j]? = some x) (h : K x) : subW (.ref p) (.int i) objs K := by
  show (match lOf objs (.ref p) with
      | some l => (-(2 ^ 62) < i ∧ i < 2 ^ 62) ∧ (match idx l.length i with
        | some j => (match l[j]? with
          | some x => K x
          | none => False)
        | none => False)
      | none => False)
  rw [lOf_ref hp]
  simp only [hj, hx]
  exact ⟨hi, h⟩
theorem bytesV_len (Ds : List (List Nat)) : (bytesV Ds).length = Ds.length := by simp [bytesV]
theorem bytesOf_bytesV : ∀ l : List (List Nat), bytesOf (bytesV l) = some l
  | [] => rfl
  | D :: r => by
    have := bytesOf_bytesV r
    unfold bytesV at this ⊢
    rw [List.map_cons, bytesOf, this]
    rfl
def natsI (l : List Nat) : List SV := l.map fun (u : Nat) => .int u
theorem intsOf_nats : ∀ l : List Nat, intsOf (natsI l) = some (l.map fun (u : Nat) => (u : Int))
  | [] => rfl
  | u :: r => by
    have := intsOf_nats r
    unfold natsI at this ⊢
    rw [List.map_cons, intsOf, this]
    rfl
/-- octets of a list of small numbers -/
theorem bytesL_ok {c : C} {l : List Nat} {objs : List AO} {K : SV → List AO → Prop} (h : ∀ x ∈ l, x < 256) (hl : l.length ≤ lim) (k : K (.bytes l) objs) : callW c (.ty .bytes) [.lst (natsI l)] objs K := by
  show (match (lOf objs (.lst (natsI l))).bind intsOf with
      | some ns => (∀ n ∈ ns, 0 ≤ n ∧ n < 256) ∧ ns.length ≤ lim ∧ K (.bytes (ns.map Int.toNat)) objs
      | none => False)
  rw [show lOf objs (.lst (natsI l)) = some (natsI l) from rfl, Option.bind_some, intsOf_nats]
  refine ⟨fun n hn => ?_, by simpa using hl, ?_⟩
  · obtain ⟨u, hu, rfl⟩ := List.mem_map.mp hn
    have := h u hu
    omega
  · have : ((l.map fun (u : Nat) => (u : Int)).map Int.toNat) = l := by
      rw [List.map_map]
      have : (Int.toNat ∘ fun (u : Nat) => (u : Int)) = id := by funext u; simp
      rw [this, List.map_id]
    rw [this]; exact k
theorem zeros_flat (k : Nat) : (List.replicate k [SV.int 0]).flatten = natsI (List.replicate k 0) := by
  induction k with
  | zero => rfl
  | succ k ih => rw [List.replicate_succ, List.flatten_cons, ih]; rfl
/-- bytes([0] * k) -/
def zerosX (i : Nat) : X := .call (.glob 103) (.cons (.bin .Mult (.list false (.cons (.lit (.int 0)) .nil)) (.var i)) .nil)
theorem zeros_ok {L : LawP} {ℓ i k : Nat} {σ : St} {K : SV → St → Prop} (hi : σ.vars[i]? = some (.int (k : Nat))) (hk : k ≤ 1000) (h : K (.bytes (List.replicate k 0)) σ) : wpE (cT L ℓ) (zerosX i) σ K := by
  unfold zerosX
  show 1 ≤ lim ∧ wpE (cT L ℓ) (.var i) σ fun vb σ2 => binW .Mult (.lst [.int 0]) vb σ2.objs fun r => callW (cT L ℓ) (.ty .bytes) [r] σ2.objs fun r objs => K r ⟨σ2.vars, objs⟩
  refine ⟨by decide, ?_⟩
  unfold wpE
  rw [hi]
  show ((k : Int) < 2 ^ 62 ∧ -(2 ^ 62) < (k : Int) ∧ 1 * ((k : Int)).toNat ≤ lim) ∧ callW (cT L ℓ) (.ty .bytes) [.lst (List.replicate ((k : Int)).toNat [SV.int 0]).flatten] σ.objs fun r objs => K r ⟨σ.vars, objs⟩
  refine ⟨⟨by omega, by omega, by simp only [lim]; omega⟩, ?_⟩
  rw [Int.toNat_natCast, zeros_flat]
  exact bytesL_ok (fun x hx => by rw [List.eq_of_mem_replicate hx]; decide) (by simp [lim]; omega) h
theorem nats_small {l : List Nat} (h : ∀ x ∈ l, x < 256) : ∀ n ∈ (l.map fun (u : Nat) => (u : Int)), 0 ≤ n ∧ n < 256 := fun n hn => by
  obtain ⟨u, hu, rfl⟩ := List.mem_map.mp hn
  have := h u hu
  omega
theorem nats_back (l : List Nat) : ((l.map fun (u : Nat) => (u : Int)).map Int.toNat) = l := by
  rw [List.map_map]
  have : (Int.toNat ∘ fun (u : Nat) => (u : Int)) = id := by funext u; simp
  rw [this, List.map_id]
theorem fmod_nat (a : Int) {m : Nat} (hm : 0 < m) : ∃ k : Nat, k < m ∧ a.fmod (m : Int) = (k : Int) := by
  have h1 : a.fmod (m : Int) = a % (m : Int) := Int.fmod_eq_emod_of_nonneg a (by omega)
  have h2 := Int.emod_nonneg a (show (m : Int) ≠ 0 by omega)
  have h3 := Int.emod_lt_of_pos a (show (0 : Int) < (m : Int) by omega)
  exact ⟨(a % (m : Int)).toNat, by omega, by rw [h1]; omega⟩
theorem items_ref {objs : List AO} {p : Nat} {l : List SV} (h : objs[p]? = some (.list l)) : itemsOf objs (.ref p) = some l := by
  show (match objs[p]? with | some (.list l) => some l | _ => none) = _
  rw [h]
theorem pre_list {objs : List AO} {p : Nat} {l : List SV} (h : objs[p]? = some (.list l)) : bmPre .append (.ref p) objs := by
  show (match objs[p]? with | some (.list _) => True | _ => False)
  rw [h]; exact True.intro
theorem append_ok {objs : List AO} {p : Nat} {l : List SV} {x : SV} {K : SV → List AO → Prop} (h : objs[p]? = some (.list l)) (hl : l.length ≤ lim) (k : K .none (objs.set p (.list (l ++ [x])))) : bmW .append (.ref p) [x] objs K := by
  show (match objs[p]? with | some (.list l) => l.length ≤ lim ∧ K .none (objs.set p (.list (l ++ [x]))) | _ => False)
  rw [h]; exact ⟨hl, k⟩
def dropS : Nat → Ss → Ss
  | 0, s => s
  | n + 1, .cons _ r => dropS n r
  | _ + 1, .nil => .nil
def sideV (back : Bool) : SV := .str (Str.ofString (if back then "little" else "big"))
def SaysT (fl : Fl) (_ : St) : Prop := retV fl = .bool true
end Vc
end
section
open PySem PySem.W PyProof.Rows PySem.Calls
set_option autoImplicit false
set_option maxRecDepth 100000
namespace Vc
theorem lev_toBytes : ∀ (k v : Nat), v < 256 ^ k → lev (toBytesL k v) = v
  | 0, v, h => by
    have : v = 0 := by simpa using h
    subst this; rfl
  | k + 1, v, h => by
    have : v / 256 < 256 ^ k := by
      rw [Nat.div_lt_iff_lt_mul (by decide)]
      rw [Nat.pow_succ] at h; omega
    show v % 256 + 256 * lev (toBytesL k (v / 256)) = v
    rw [lev_toBytes k _ this]
    omega
theorem pow256 (k : Nat) : 256 ^ k = 2 ^ (8 * k) := by
  rw [show (256 : Nat) = 2 ^ 8 from rfl, ← Nat.pow_mul]
theorem toBytes_inj {k a b : Nat} (ha : a < 256 ^ k) (hb : b < 256 ^ k) (h : toBytesL k a = toBytesL k b) : a = b := by
  rw [← lev_toBytes k a ha, ← lev_toBytes k b hb, h]
/-- octets that are sent as S -/
def octsOf (back : Bool) (k v : Nat) : List Nat := if back then toBytesL k v else (toBytesL k v).reverse
theorem octsOf_len (back : Bool) (k v : Nat) : (octsOf back k v).length = k := by
  unfold octsOf
  cases back <;> simp [toBytesL_length]
theorem octsOf_lt (back : Bool) (k v : Nat) : ∀ x ∈ octsOf back k v, x < 256 := by
  unfold octsOf
  cases back
  · simpa using toBytesL_lt k v
  · simpa using toBytesL_lt k v
theorem msg_octs {back : Bool} {k v : Nat} (h : v < 2 ^ (8 * k)) : msg back (octsOf back k v) = phi back (8 * k) v := by
  have h' : v < 256 ^ k := by rw [pow256]; exact h
  cases back with
  | true =>
    show prev (8 * (toBytesL k v).length) (lev (toBytesL k v)) = prev (8 * k) v
    rw [toBytesL_length, lev_toBytes k v h']
  | false =>
    show lev (toBytesL k v).reverse.reverse = v
    rw [List.reverse_reverse, lev_toBytes k v h']
theorem lev_zeros (k : Nat) : lev (List.replicate k 0) = 0 := by
  induction k with
  | zero => rfl
  | succ k ih => rw [List.replicate_succ, lev, ih]
theorem prev_zero (n : Nat) : prev n 0 = 0 := by
  apply Nat.eq_of_testBit_eq
  intro i
  rw [prev_bit]; simp
theorem msg_zeros (back : Bool) (k : Nat) : msg back (List.replicate k 0) = 0 := by
  cases back with
  | true =>
    show prev _ (lev (List.replicate k 0)) = 0
    rw [lev_zeros, prev_zero]
  | false =>
    show lev (List.replicate k 0).reverse = 0
    rw [List.reverse_replicate, lev_zeros]

section
variable {g : Cfg} {A B D : List Nat} {v : Nat}
theorem step_append (ok : g.Ok) (hA : ∀ x ∈ A, x < 256) (hB : ∀ x ∈ B, x < 256) (hv : v < 2 ^ g.n) : g.step (A ++ B) v = g.step B (g.step A v) := by
  unfold Cfg.step
  rw [xor_cancel, crcv_append ok.P hA hB (Nat.xor_lt_two_pow ok.xor hv)]
theorem phi_step (ok : g.Ok) (hA : ∀ x ∈ A, x < 256) (hv : v < 2 ^ g.n) : phi g.back g.n (g.step A v) = prest (msg g.back A * 2 ^ g.n ^^^ phi g.back g.n (g.xor ^^^ v) * 2 ^ (8 * A.length)) g.P ^^^ phi g.back g.n g.xor := by
  unfold Cfg.step
  rw [phi_xor, (crcv_phi ok.P hA (Nat.xor_lt_two_pow ok.xor hv)).1, Nat.xor_comm]
theorem step_lt' (ok : g.Ok) (hA : ∀ x ∈ A, x < 256) (hv : v < 2 ^ g.n) : g.step A v < 2 ^ g.n :=
  Nat.xor_lt_two_pow ok.xor (crcv_phi ok.P hA (Nat.xor_lt_two_pow ok.xor hv)).2
end

end Vc
end
section
open PySem PySem.W PyProof.Rows PySem.Calls
set_option autoImplicit false
namespace Vc

def x_law_evens : Ss := (.cons
  (.aug 0 .BitAnd (.lit (.int 6148914691236517205))) (.cons
  (.fr [2, 3] (.var 1) (.cons
  (.set 0 (.bin .BitAnd (.bin .BitOr (.var 0) (.bin .RShift (.var 0) (.var 2))) (.var 3))) .nil)) (.cons
  (.ret (.var 0)) .nil)))
def nm_law_evens : List (Str × Nat) := [((Str.ofString "v"), 0), ((Str.ofString "masks"), 1), ((Str.ofString "s"), 2), ((Str.ofString "m"), 3)]
abbrev nv_law_evens : Nat := 4
def ps_law_evens : List Str := [(Str.ofString "v"), (Str.ofString "masks")]

def x_law_share : Ss := (.cons
  (.set 2 (.bmeth .bitLength (.var 1) .nil)) (.cons
  (.set 3 (.lit (.int 0))) (.cons
  (.wh (.cmp (.bmeth .bitLength (.var 0) .nil) .GtE (.var 2)) (.cons
  (.set 4 (.bin .Sub (.bmeth .bitLength (.var 0) .nil) (.var 2))) (.cons
  (.aug 0 .BitXor (.bin .LShift (.var 1) (.var 4))) (.cons
  (.aug 3 .BitOr (.bin .LShift (.lit (.int 1)) (.var 4))) .nil)))) (.cons
  (.ret (.tup (.cons (.var 3) (.cons (.var 0) .nil)))) .nil))))
def nm_law_share : List (Str × Nat) := [((Str.ofString "v"), 0), ((Str.ofString "poly"), 1), ((Str.ofString "k"), 2), ((Str.ofString "share"), 3), ((Str.ofString "s"), 4)]
abbrev nv_law_share : Nat := 5
def ps_law_share : List Str := [(Str.ofString "v"), (Str.ofString "poly")]

def x_law_times : Ss := (.cons
  (.set 2 (.lit (.int 0))) (.cons
  (.wh (.var 1) (.cons
  (.ite (.bin .BitAnd (.var 1) (.lit (.int 1))) (.cons
  (.aug 2 .BitXor (.var 0)) .nil) .nil) (.cons
  (.aug 0 .LShift (.lit (.int 1))) (.cons
  (.aug 1 .RShift (.lit (.int 1))) .nil)))) (.cons
  (.ret (.var 2)) .nil)))
def nm_law_times : List (Str × Nat) := [((Str.ofString "a"), 0), ((Str.ofString "b"), 1), ((Str.ofString "v"), 2)]
abbrev nv_law_times : Nat := 3
def ps_law_times : List Str := [(Str.ofString "a"), (Str.ofString "b")]

def x_law_euclid : Ss := (.cons
  (.setT [2, 3] (.tup (.cons (.lit (.int 1)) (.cons (.lit (.int 0)) .nil)))) (.cons
  (.wh (.var 1) (.cons
  (.set 4 (.bin .Sub (.bmeth .bitLength (.var 0) .nil) (.bmeth .bitLength (.var 1) .nil))) (.cons
  (.ite (.cmp (.var 4) .Lt (.lit (.int 0))) (.cons
  (.setT [0, 1, 2, 3] (.tup (.cons (.var 1) (.cons (.var 0) (.cons (.var 3) (.cons (.var 2) .nil)))))) .nil) (.cons
  (.aug 0 .BitXor (.bin .LShift (.var 1) (.var 4))) (.cons
  (.aug 2 .BitXor (.bin .LShift (.var 3) (.var 4))) .nil))) .nil))) (.cons
  (.ret (.tup (.cons (.var 0) (.cons (.var 2) .nil)))) .nil)))
def nm_law_euclid : List (Str × Nat) := [((Str.ofString "a"), 0), ((Str.ofString "b"), 1), ((Str.ofString "u"), 2), ((Str.ofString "w"), 3), ((Str.ofString "s"), 4)]
abbrev nv_law_euclid : Nat := 5
def ps_law_euclid : List Str := [(Str.ofString "a"), (Str.ofString "b")]

def x_law_halved : Ss := (.cons
  (.set 2 (.call (.glob 30) (.cons (.var 0) (.cons (.var 1) .nil)))) (.cons
  (.set 3 (.call (.glob 30) (.cons (.bin .RShift (.var 0) (.lit (.int 1))) (.cons (.var 1) .nil)))) (.cons
  (.setT [4, 5] (.call (.glob 33) (.cons (.var 3) (.cons (.var 2) .nil)))) (.cons
  (.set 6 (.sub (.call (.glob 31) (.cons (.bin .BitXor (.var 4) (.call (.glob 32) (.cons (.var 5) (.cons (.var 3) .nil)))) (.cons (.var 2) .nil))) (.lit (.int 0)))) (.cons
  (.set 7 (.bin .BitXor (.call (.glob 32) (.cons (.var 2) (.cons (.var 5) .nil))) (.bin .LShift (.call (.glob 32) (.cons (.var 3) (.cons (.var 6) .nil))) (.lit (.int 1))))) (.cons
  (.ret (.tup (.cons (.var 7) (.cons (.var 4) (.cons (.sub (.call (.glob 31) (.cons (.var 0) (.cons (.var 4) .nil))) (.lit (.int 0))) .nil))))) .nil))))))
def nm_law_halved : List (Str × Nat) := [((Str.ofString "poly"), 0), ((Str.ofString "masks"), 1), ((Str.ofString "even"), 2), ((Str.ofString "odd"), 3), ((Str.ofString "common"), 4), ((Str.ofString "b"), 5), ((Str.ofString "a"), 6), ((Str.ofString "w"), 7)]
abbrev nv_law_halved : Nat := 8
def ps_law_halved : List Str := [(Str.ofString "poly"), (Str.ofString "masks")]

def x_law_spelt : Ss := (.cons
  (.setZ 2 true [((Str.ofString "i"), 3), ((Str.ofString "c"), 4), ((Str.ofString "pattern"), 1)] (.ife (.bin .BitAnd (.bin .RShift (.var 1) (.var 3)) (.lit (.int 1))) (.bin .BitXor (.var 4) (.lit (.int 32))) (.var 4)) 3 4 (.glob 107) (.cons (.var 0) .nil)) (.cons
  (.ex (.bmeth .reverse (.var 2) .nil)) (.cons
  (.ret (.call (.glob 103) (.cons (.var 2) .nil))) .nil)))
def nm_law_spelt : List (Str × Nat) := [((Str.ofString "letters"), 0), ((Str.ofString "pattern"), 1), ((Str.ofString "rows"), 2)]
abbrev nv_law_spelt : Nat := 5
def ps_law_spelt : List Str := [(Str.ofString "letters"), (Str.ofString "pattern")]

def x_law_turned : Ss := (.cons
  (.set 2 (.lit (.int 0))) (.cons
  (.fr [3] (.call (.glob 106) (.cons (.var 1) .nil)) (.cons
  (.set 2 (.bin .BitOr (.bin .LShift (.var 2) (.lit (.int 1))) (.bin .BitAnd (.bin .RShift (.var 0) (.var 3)) (.lit (.int 1))))) .nil)) (.cons
  (.ret (.var 2)) .nil)))
def nm_law_turned : List (Str × Nat) := [((Str.ofString "v"), 0), ((Str.ofString "n"), 1), ((Str.ofString "w"), 2), ((Str.ofString "i"), 3)]
abbrev nv_law_turned : Nat := 4
def ps_law_turned : List Str := [(Str.ofString "v"), (Str.ofString "n")]

def x_law_left : Ss := (.cons
  (.set 5 (.bin .Mult (.lit (.int 8)) (.call (.glob 100) (.cons (.var 0) .nil)))) (.cons
  (.ite (.not (.var 4)) (.cons
  (.ret (.sub (.call (.glob 31) (.cons (.bin .BitXor (.bin .LShift (.bmeth .fromBytes (.glob 102) (.cons (.var 0) (.cons (.lit (.str (Str.ofString "big"))) .nil))) (.var 3)) (.bin .LShift (.var 1) (.var 5))) (.cons (.var 2) .nil))) (.lit (.int 1)))) .nil) .nil) (.cons
  (.set 6 (.bin .BitOr (.bin .LShift (.call (.glob 36) (.cons (.var 2) (.cons (.var 3) .nil))) (.lit (.int 1))) (.lit (.int 1)))) (.cons
  (.set 7 (.bin .BitXor (.bmeth .fromBytes (.glob 102) (.cons (.var 0) (.cons (.lit (.str (Str.ofString "little"))) .nil))) (.var 1))) (.cons
  (.fr [8] (.call (.glob 106) (.cons (.var 5) .nil)) (.cons
  (.ite (.bin .BitAnd (.var 7) (.lit (.int 1))) (.cons
  (.aug 7 .BitXor (.var 6)) .nil) .nil) (.cons
  (.aug 7 .RShift (.lit (.int 1))) .nil))) (.cons
  (.ret (.var 7)) .nil))))))
def nm_law_left : List (Str × Nat) := [((Str.ofString "octets"), 0), ((Str.ofString "begun"), 1), ((Str.ofString "poly"), 2), ((Str.ofString "n"), 3), ((Str.ofString "back"), 4), ((Str.ofString "count"), 5), ((Str.ofString "turned"), 6), ((Str.ofString "v"), 7), ((Str.ofString "i"), 8)]
abbrev nv_law_left : Nat := 9
def ps_law_left : List Str := [(Str.ofString "octets"), (Str.ofString "begun"), (Str.ofString "poly"), (Str.ofString "n"), (Str.ofString "back")]

def x_law : Ss := (.cons
  (.set 1 (.glob 120)) (.cons
  (.set 2 (.comp false [((Str.ofString "i"), 31), ((Str.ofString "script"), 0)] (.ife (.cmp (.var 31) .Lt (.call (.glob 100) (.cons (.var 0) .nil))) (.sub (.var 0) (.var 31)) (.bin .Add (.bin .Mult (.lit (.int 11)) (.var 31)) (.lit (.int 3)))) [31] (.call (.glob 106) (.cons (.lit (.int 17)) .nil)) .nop)) (.cons
  (.set 3 (.sub (.tup (.cons (.lit (.int 8)) (.cons (.lit (.int 16)) (.cons (.lit (.int 24)) (.cons (.lit (.int 32)) .nil))))) (.bin .Mod (.sub (.var 2) (.lit (.int 0))) (.lit (.int 4))))) (.cons
  (.set 4 (.bin .Sub (.bin .LShift (.lit (.int 1)) (.var 3)) (.lit (.int 1)))) (.cons
  (.set 5 (.sub (.tup (.cons (.lit (.int 0)) (.cons (.lit (.int 2)) (.cons (.lit (.int 3)) (.cons (.lit (.int 4)) (.cons (.lit (.int 8)) .nil)))))) (.bin .Mod (.sub (.var 2) (.lit (.int 1))) (.ife (.cmp (.var 3) .Lt (.lit (.int 32))) (.lit (.int 5)) (.lit (.int 2)))))) (.cons
  (.set 6 (.bin .BitOr (.bin .BitOr (.bin .LShift (.lit (.int 1)) (.bin .FloorDiv (.var 3) (.lit (.int 8)))) (.bin .BitAnd (.sub (.var 2) (.lit (.int 3))) (.bin .Sub (.bin .LShift (.lit (.int 1)) (.bin .FloorDiv (.var 3) (.lit (.int 8)))) (.lit (.int 1))))) (.lit (.int 1)))) (.cons
  (.set 7 (.bin .Sub (.var 3) (.bin .Mult (.var 5) (.bin .FloorDiv (.var 3) (.lit (.int 8)))))) (.cons
  (.set 8 (.bin .BitOr (.bin .BitOr (.bin .LShift (.lit (.int 1)) (.var 7)) (.bin .BitAnd (.sub (.var 2) (.lit (.int 2))) (.bin .Sub (.bin .LShift (.lit (.int 1)) (.var 7)) (.lit (.int 1))))) (.lit (.int 1)))) (.cons
  (.fr [9] (.call (.glob 106) (.cons (.var 5) .nil)) (.cons
  (.set 8 (.call (.glob 32) (.cons (.var 8) (.cons (.var 6) .nil)))) .nil)) (.cons
  (.set 10 (.cmp (.bin .Mod (.sub (.var 2) (.lit (.int 4))) (.lit (.int 2))) .Eq (.lit (.int 1)))) (.cons
  (.set 11 (.call (.glob 110) (.cons (.var 8) (.cons (.sub (.var 2) (.lit (.int 5))) (.cons (.var 10) (.cons (.sub (.var 2) (.lit (.int 6))) .nil)))))) (.cons
  (.set 12 (.call (.glob 103) (.cons (.comp false [((Str.ofString "i"), 32), ((Str.ofString "draw"), 2)] (.bin .BitAnd (.bin .RShift (.sub (.var 2) (.lit (.int 7))) (.bin .Add (.bin .Mult (.lit (.int 8)) (.var 32)) (.lit (.int 2)))) (.lit (.int 255))) [32] (.call (.glob 106) (.cons (.bin .Add (.lit (.int 1)) (.bin .Mod (.sub (.var 2) (.lit (.int 7))) (.lit (.int 2)))) .nil)) .nop) .nil))) (.cons
  (.set 13 (.call (.glob 103) (.cons (.comp false [((Str.ofString "i"), 33), ((Str.ofString "draw"), 2)] (.bin .BitAnd (.bin .RShift (.sub (.var 2) (.lit (.int 8))) (.bin .Add (.bin .Mult (.lit (.int 8)) (.var 33)) (.lit (.int 2)))) (.lit (.int 255))) [33] (.call (.glob 106) (.cons (.bin .Mod (.sub (.var 2) (.lit (.int 8))) (.lit (.int 3))) .nil)) .nop) .nil))) (.cons
  (.set 14 (.bin .Add (.var 3) (.bin .Mod (.sub (.var 2) (.lit (.int 9))) (.lit (.int 2))))) (.cons
  (.set 15 (.comp false [((Str.ofString "i"), 34), ((Str.ofString "draw"), 2)] (.bin .Add (.lit (.int 97)) (.bin .Mod (.bin .Add (.bin .RShift (.sub (.var 2) (.lit (.int 10))) (.bin .Mult (.lit (.int 5)) (.var 34))) (.bin .Mult (.var 34) (.sub (.var 2) (.lit (.int 11))))) (.lit (.int 26)))) [34] (.call (.glob 106) (.cons (.var 14) .nil)) .nop)) (.cons
  (.set 16 (.meth 0 (.var 11) (.cons (.var 12) .nil))) (.cons
  (.set 17 (.attr (.var 16) 7)) (.cons
  (.set 18 (.meth 1 (.var 16) .nil)) (.cons
  (.ex (.meth 2 (.var 18) (.cons (.var 13) .nil))) (.cons
  (.ite (.cmp (.bin .BitXor (.attr (.var 18) 7) (.bin .BitAnd (.sub (.var 2) (.lit (.int 6))) (.var 4))) .NotEq (.call (.glob 37) (.cons (.bin .Add (.var 12) (.var 13)) (.cons (.bin .BitAnd (.bin .BitXor (.sub (.var 2) (.lit (.int 5))) (.sub (.var 2) (.lit (.int 6)))) (.var 4)) (.cons (.var 8) (.cons (.var 3) (.cons (.var 10) .nil))))))) (.cons
  (.ret (.lit (.bool false))) .nil) .nil) (.cons
  (.set 19 (.meth 1 (.var 16) .nil)) (.cons
  (.ex (.meth 2 (.var 19) (.cons (.call (.glob 35) (.cons (.var 15) (.cons (.lit (.int 0)) .nil))) .nil))) (.cons
  (.ex (.meth 2 (.var 19) (.cons (.var 13) .nil))) (.cons
  (.ite (.cmp (.bin .Mod (.sub (.var 2) (.lit (.int 12))) (.lit (.int 3))) .Eq (.lit (.int 0))) (.cons
  (.set 20 (.bin .BitAnd (.sub (.var 2) (.lit (.int 13))) (.var 4))) .nil) (.cons
  (.set 21 (.meth 1 (.var 16) .nil)) (.cons
  (.ex (.meth 2 (.var 21) (.cons (.bin .Add (.call (.glob 35) (.cons (.var 15) (.cons (.bin .BitAnd (.sub (.var 2) (.lit (.int 13))) (.bin .Sub (.bin .LShift (.lit (.int 1)) (.var 14)) (.lit (.int 1)))) .nil))) (.var 13)) .nil))) (.cons
  (.set 20 (.attr (.var 21) 7)) .nil)))) (.cons
  (.set 22 (.bin .BitXor (.var 20) (.attr (.var 19) 7))) (.cons
  (.ite (.bool .Or (.cons (.not (.call (.glob 101) (.cons (.var 22) (.cons (.glob 102) .nil)))) (.cons (.cmp (.var 22) .NotEq (.bin .BitAnd (.var 22) (.var 4))) .nil))) (.cons
  (.ret (.lit (.bool false))) .nil) .nil) (.cons
  (.ite (.var 10) (.cons
  (.set 22 (.call (.glob 36) (.cons (.var 22) (.cons (.var 3) .nil)))) .nil) .nil) (.cons
  (.fr [9] (.call (.glob 106) (.cons (.bin .Add (.bin .Add (.var 3) (.bin .Mult (.lit (.int 8)) (.call (.glob 100) (.cons (.var 13) .nil)))) (.ife (.var 10) (.lit (.int 2)) (.lit (.int 5)))) .nil)) (.cons
  (.ite (.bin .BitAnd (.var 22) (.lit (.int 1))) (.cons
  (.aug 22 .BitXor (.var 8)) .nil) .nil) (.cons
  (.aug 22 .RShift (.lit (.int 1))) .nil))) (.cons
  (.set 23 (.lit (.bool true))) (.cons
  (.setT [24, 25, 26] (.call (.glob 34) (.cons (.var 8) (.cons (.var 1) .nil)))) (.cons
  (.fr [9] (.call (.glob 106) (.cons (.lit (.int 3)) .nil)) (.cons
  (.setT [27, 28] (.call (.glob 31) (.cons (.call (.glob 30) (.cons (.bin .RShift (.var 22) (.lit (.int 1))) (.cons (.var 1) .nil))) (.cons (.var 25) .nil)))) (.cons
  (.ite (.var 28) (.cons
  (.set 23 (.lit (.bool false))) (.cons
  .brk .nil)) .nil) (.cons
  (.set 22 (.sub (.call (.glob 31) (.cons (.bin .BitXor (.call (.glob 30) (.cons (.var 22) (.cons (.var 1) .nil))) (.call (.glob 32) (.cons (.var 24) (.cons (.var 27) .nil)))) (.cons (.var 26) .nil))) (.lit (.int 1)))) (.cons
  (.ite (.bool .And (.cons (.cmp (.var 25) .Gt (.lit (.int 1))) (.cons (.cmp (.var 9) .Lt (.lit (.int 2))) .nil))) (.cons
  (.setT [24, 25, 26] (.call (.glob 34) (.cons (.var 26) (.cons (.var 1) .nil)))) .nil) .nil) .nil))))) (.cons
  (.ite (.bool .And (.cons (.cmp (.bin .Mod (.sub (.var 2) (.lit (.int 12))) (.lit (.int 3))) .Gt (.lit (.int 0))) (.cons (.bool .Or (.cons (.not (.var 23)) (.cons (.sub (.call (.glob 31) (.cons (.bin .BitXor (.bin .BitAnd (.sub (.var 2) (.lit (.int 13))) (.bin .Sub (.bin .LShift (.lit (.int 1)) (.var 14)) (.lit (.int 1)))) (.var 22)) (.cons (.var 26) .nil))) (.lit (.int 1))) .nil))) .nil))) (.cons
  (.ret (.lit (.bool false))) .nil) .nil) (.cons
  (.set 29 (.bin .BitAnd (.sub (.var 2) (.lit (.int 14))) (.bin .Sub (.bin .LShift (.lit (.int 1)) (.var 14)) (.lit (.int 1))))) (.cons
  (.ite (.bool .And (.cons (.var 23) (.cons (.cmp (.bin .Mod (.sub (.var 2) (.lit (.int 15))) (.lit (.int 4))) .Lt (.lit (.int 3))) .nil))) (.cons
  (.set 29 (.bin .BitXor (.var 22) (.call (.glob 32) (.cons (.var 26) (.cons (.bin .BitAnd (.sub (.var 2) (.lit (.int 14))) (.bin .Sub (.bin .LShift (.lit (.int 1)) (.bin .Sub (.bin .Add (.var 14) (.lit (.int 1))) (.bmeth .bitLength (.var 26) .nil))) (.lit (.int 1)))) .nil))))) (.cons
  (.ite (.cmp (.bin .Mod (.sub (.var 2) (.lit (.int 15))) (.lit (.int 4))) .Eq (.lit (.int 2))) (.cons
  (.aug 29 .BitXor (.bin .LShift (.lit (.int 1)) (.bin .Mod (.sub (.var 2) (.lit (.int 16))) (.var 14)))) .nil) .nil) .nil)) .nil) (.cons
  (.set 30 (.bool .And (.cons (.var 23) (.cons (.cmp (.sub (.call (.glob 31) (.cons (.bin .BitXor (.var 29) (.var 22)) (.cons (.var 26) .nil))) (.lit (.int 1))) .Eq (.lit (.int 0))) .nil)))) (.cons
  (.set 18 (.meth 1 (.var 16) .nil)) (.cons
  (.ex (.meth 2 (.var 18) (.cons (.bin .Add (.call (.glob 35) (.cons (.var 15) (.cons (.var 29) .nil))) (.var 13)) .nil))) (.cons
  (.ite (.bool .Or (.cons (.cmp (.cmp (.meth 3 (.var 18) .nil) .Eq (.bmeth .toBytes (.var 20) (.cons (.bin .FloorDiv (.var 3) (.lit (.int 8))) (.cons (.lit (.str (Str.ofString "big"))) .nil)))) .NotEq (.var 30)) (.cons (.cmp (.cmp (.attr (.var 18) 7) .Eq (.var 20)) .NotEq (.var 30)) .nil))) (.cons
  (.ret (.lit (.bool false))) .nil) .nil) (.cons
  (.ret (.bool .And (.cons (.cmp (.attr (.var 16) 7) .Eq (.var 17)) (.cons (.cmp (.attr (.var 11) 7) .Eq (.bin .BitAnd (.sub (.var 2) (.lit (.int 5))) (.var 4))) .nil)))) .nil)))))))))))))))))))))))))))))))))))))))
def nm_law : List (Str × Nat) := [((Str.ofString "script"), 0), ((Str.ofString "masks"), 1), ((Str.ofString "draw"), 2), ((Str.ofString "n"), 3), ((Str.ofString "low"), 4), ((Str.ofString "often"), 5), ((Str.ofString "part"), 6), ((Str.ofString "rest"), 7), ((Str.ofString "poly"), 8), ((Str.ofString "i"), 9), ((Str.ofString "back"), 10), ((Str.ofString "crc"), 11), ((Str.ofString "ahead"), 12), ((Str.ofString "behind"), 13), ((Str.ofString "many"), 14), ((Str.ofString "letters"), 15), ((Str.ofString "one"), 16), ((Str.ofString "seen"), 17), ((Str.ofString "two"), 18), ((Str.ofString "plain"), 19), ((Str.ofString "wish"), 20), ((Str.ofString "other"), 21), ((Str.ofString "v"), 22), ((Str.ofString "there"), 23), ((Str.ofString "w"), 24), ((Str.ofString "common"), 25), ((Str.ofString "k"), 26), ((Str.ofString "share"), 27), ((Str.ofString "left"), 28), ((Str.ofString "pattern"), 29), ((Str.ofString "holds"), 30)]
abbrev nv_law : Nat := 35
def ps_law : List Str := [(Str.ofString "script")]

/- globals: {'_get_buffer_view': 0, '_crc8': 1, '_crc8r': 2, '_crc16': 3, '_crc16r': 4, '_crc24': 5, '_crc24r': 6, '_crc32': 7, '_crc32r': 8, '_verifyPoly': 9, '_bitrev': 10, '_bytecrc': 11, '_bytecrc_r': 12, '_mkTable': 13, '_mkTable_r': 14, '_verifyParams': 15, '_mkCrcFun': 16, '_law_evens': 30, '_law_share': 31, '_law_times': 32, '_law_euclid': 33, '_law_halved': 34, '_law_spelt': 35, '_law_turned': 36, '_law_left': 37, 'law': 38, 'len': 100, 'isinstance': 101, 'int': 102, 'bytes': 103, 'str': 104, 'list': 105, 'range': 106, 'enumerate': 107, 'zip': 108, 'Crc': 110, '_View': 111, '_sizeMap': 112, '_law_masks': 120} -/
end Vc
end
section
open PySem PySem.W PyProof.Rows PySem.Calls
set_option autoImplicit false
set_option maxRecDepth 100000
namespace Vc
local macro_rules | `(tactic| walk_at "vc") => `(tactic| (conv => whnf))
local macro_rules | `(tactic| walk_at "vs") => `(tactic| first | exact True.intro | omega | (simp only [intBits_nat]; omega))
local macro_rules | `(tactic| walk_at "vg") => `(tactic| ((repeat ((conv => whnf); (try dsimp only [List.set]); refine And.intro (by walk_at "vs") ?_)); (conv => whnf); (try dsimp only [List.set])))

theorem or_le {a b m : Nat} (h1 : bl a ≤ m) (h2 : bl b ≤ m) : bl (a ||| b) ≤ m := bl_le.mpr (Nat.or_lt_two_pow (bl_le.mp h1) (bl_le.mp h2))

theorem vc_law_share {c : C} {v p : Nat} {objs : List AO} {K : Fl → St → Prop} (hp : p ≠ 0) (hv : bl v ≤ 2 ^ 26) (hpp : bl p ≤ 2 ^ 26) (h : ∀ vars, K (.ret (.tup [.int (pshare v p : Nat), .int (prest v p : Nat)])) ⟨vars, objs⟩) :
    wpSs c x_law_share ⟨vars0 [.int v, .int p] 5, objs⟩ K := by
  walk_at "vg"
  refine wh_ok (fun m σ => ∃ u q x, bl u ≤ bl v ∧ m = bl u ∧ prest u p = prest v p ∧ (q ||| pshare u p) = pshare v p ∧ σ = ⟨[.int (u : Nat), .int p, .int (bl p), .int (q : Nat), x], objs⟩) (bl v) ⟨v, 0, .unb, Nat.le_refl _, rfl, rfl, by simp, by rw [intBits_nat]; rfl⟩ ?_
  rintro m σ R ⟨u, q, x, hu, rfl, hr, hq, rfl⟩ hn _ _ _
  walk_at "vg"
  refine drec (fun hb => ?_) (fun hb => ?_)
  · simp only [intBits_nat, decide_eq_true_eq] at hb
    have hb' : bl p ≤ bl u := by omega
    have hu0 : u ≠ 0 := by
      rintro rfl
      have := bl_pos.mpr hp
      rw [bl_zero] at hb'; omega
    have hlt : bl (u ^^^ p * 2 ^ (bl u - bl p)) < bl u := bl_xor_lt (by rw [bl_shift hp]; omega) hu0
    walk_at "vg"
    refine ⟨⟨by simp only [intBits_nat]; omega, ?_⟩, ?_⟩
    · rw [one_nat, intBits_nat, intBits_nat, bl_one]; omega
    walk_at "vg"
    refine hn _ _ hlt ⟨_, q ||| 2 ^ (bl u - bl p), .int ((bl u : Int) - (bl p : Int)), by omega, rfl, ?_, ?_, ?_⟩
    · rw [← hr]
      conv => rhs; unfold prest
      rw [dif_pos ⟨hb', hp⟩]
    · rw [← hq]
      conv => rhs; unfold pshare
      rw [dif_pos ⟨hb', hp⟩, Nat.or_assoc]
    · rw [intBits_nat, shl_sub hb', bitXor_nat, one_nat, shl_sub hb', bitOr_nat, Nat.one_mul]
  · simp only [intBits_nat, decide_eq_true_eq] at hb
    walk_at "vg"
    have e : prest u p = u := by
      unfold prest
      rw [dif_neg (by omega)]
    have e2 : pshare u p = 0 := by
      unfold pshare
      rw [dif_neg (by omega)]
    rw [e2, Nat.or_zero] at hq
    have := h [.int u, .int p, .int (bl p), .int q, x]
    rw [← hr, e, ← hq] at this
    exact this

theorem vc_law_times {c : C} {a b : Nat} {objs : List AO} {K : Fl → St → Prop} (hab : bl a + bl b ≤ 2 ^ 26) (h : ∀ vars, K (.ret (.int (ctimes a b : Nat))) ⟨vars, objs⟩) :
    wpSs c x_law_times ⟨vars0 [.int a, .int b] 3, objs⟩ K := by
  walk_at "vg"
  refine wh_ok (fun m σ => ∃ x y v, bl x + bl y ≤ 2 ^ 26 + 1 ∧ (y ≠ 0 → bl x + bl y ≤ 2 ^ 26) ∧ m = y ∧ v ^^^ ctimes x y = ctimes a b ∧ σ = ⟨[.int (x : Nat), .int (y : Nat), .int (v : Nat)], objs⟩) b ⟨a, b, 0, by omega, fun _ => hab, rfl, by simp, rfl⟩ ?_
  rintro m σ R ⟨x, y, v, hx1, hx, rfl, hr, rfl⟩ hn _ _ _
  walk_at "vg"
  refine drec (fun hb => ?_) (fun hb => ?_)
  · have hy : m ≠ 0 := by
      rintro rfl
      revert hb; decide
    have hx := hx hy
    have hlt : m / 2 < m := by omega
    have hodd : Builtin.bitAnd (m : Int) 1 = ((m % 2 : Nat) : Int) := by rw [bitAnd_m1]; rfl
    have h2 : (m : Int).fdiv (2 ^ (1 : Int).toNat) = ((m / 2 : Nat) : Int) := by rw [one_nat, shr_nat]
    have h3 : (x : Int) * 2 ^ (1 : Int).toNat = ((2 * x : Nat) : Int) := by rw [one_nat, shl_nat, Nat.pow_one, Nat.mul_comm]
    have unf : ctimes x m = (if m % 2 = 1 then x else 0) ^^^ ctimes (2 * x) (m / 2) := by
      conv => lhs; unfold ctimes
      rw [if_neg hy]
    have bx : bl (2 * x) ≤ bl x + 1 := by
      rw [Nat.mul_comm]; exact bl_shift_le (k := 1) (by omega)
    have by' : bl (m / 2) + 1 ≤ bl m ∨ m / 2 = 0 := by
      by_cases h0 : m / 2 = 0
      · exact .inr h0
      · left
        have e : bl (m / 2 * 2 ^ 1) = bl (m / 2) + 1 := bl_shift h0
        have : bl (m / 2 * 2 ^ 1) ≤ bl m := bl_le.mpr (Nat.lt_of_le_of_lt (by omega) (bl_le.mp (Nat.le_refl (bl m))))
        omega
    have hm1 : 1 ≤ bl m := bl_pos.mpr hy
    have fin : bl (2 * x) + bl (m / 2) ≤ 2 ^ 26 + 1 ∧ (m / 2 ≠ 0 → bl (2 * x) + bl (m / 2) ≤ 2 ^ 26) := by
      rcases by' with q | q
      · exact ⟨by omega, fun _ => by omega⟩
      · rw [q, bl_zero]; exact ⟨by omega, fun h => (h rfl).elim⟩
    walk_at "vg"
    refine drec (fun ho => ?_) (fun ho => ?_)
    · have ho' : m % 2 = 1 := by
        rw [hodd] at ho
        have : ¬ m % 2 = 0 := by
          intro e; rw [e] at ho; revert ho; decide
        omega
      walk_at "vg"
      refine hn _ _ hlt ⟨2 * x, m / 2, v ^^^ x, fin.1, fin.2, rfl, ?_, ?_⟩
      · rw [← hr, unf, if_pos ho', Nat.xor_assoc]
      · rw [h2, h3, bitXor_nat]
    · have ho' : ¬ m % 2 = 1 := by
        rw [hodd] at ho
        intro e; rw [e] at ho; revert ho; decide
      walk_at "vg"
      refine hn _ _ hlt ⟨2 * x, m / 2, v, fin.1, fin.2, rfl, ?_, ?_⟩
      · rw [← hr, unf, if_neg ho', Nat.zero_xor]
      · rw [h2, h3]
  · have hy : m = 0 := by
      by_cases e : m = 0
      · exact e
      · exfalso; apply hb
        rw [decide_eq_true_eq]; omega
    subst hy
    walk_at "vg"
    have e : ctimes x 0 = 0 := by unfold ctimes; rfl
    rw [e, Nat.xor_zero] at hr
    have := h [.int x, .int (0 : Nat), .int v]
    rw [← hr] at this
    exact this
end Vc
end
section
open PySem PySem.W PyProof.Rows PySem.Calls
set_option autoImplicit false
set_option maxRecDepth 100000
namespace Vc
local macro_rules | `(tactic| walk_at "vs") => `(tactic| first | exact True.intro | exact rfl | omega | (simp only [intBits_nat]; omega))
local macro_rules | `(tactic| walk_at "vg") => `(tactic| ((repeat ((conv => whnf); (try dsimp only [List.set, setvs]); refine And.intro (by walk_at "vs") ?_)); (conv => whnf); (try dsimp only [List.set, setvs])))

def emz (a b : Nat) : Nat := 2 * (bl a + bl b) + (if bl a < bl b then 1 else 0)
theorem vc_law_euclid {c : C} {a b : Nat} {objs : List AO} {K : Fl → St → Prop} (ha : bl a ≤ 1000) (hb : bl b ≤ 1000) (h : ∀ vars, K (.ret (.tup [.int ((peucl a b 1 0).1 : Nat), .int ((peucl a b 1 0).2 : Nat)])) ⟨vars, objs⟩) :
    wpSs c x_law_euclid ⟨vars0 [.int a, .int b] 5, objs⟩ K := by
  walk_at "vg"
  refine wh_ok (fun m σ => ∃ x y u w z, bl x ≤ 1000 ∧ bl y ≤ 1000 ∧ m = emz x y ∧ bl u + 1000 * m ≤ 2 ^ 23 ∧ bl w + 1000 * m ≤ 2 ^ 23 ∧ peucl x y u w = peucl a b 1 0 ∧ σ = ⟨[.int (x : Nat), .int (y : Nat), .int (u : Nat), .int (w : Nat), z], objs⟩) (emz a b)
    ⟨a, b, 1, 0, .unb, ha, hb, rfl, by rw [bl_one]; unfold emz; split <;> omega, by rw [bl_zero]; unfold emz; split <;> omega, rfl, rfl⟩ ?_
  rintro m σ R ⟨x, y, u, w, z, hx, hy, rfl, hu, hw, hr, rfl⟩ hn _ _ _
  walk_at "vg"
  refine drec (fun hc => ?_) (fun hc => ?_)
  · have hy0 : y ≠ 0 := by
      rw [decide_eq_true_eq] at hc; omega
    walk_at "vg"
    refine drec (fun hs => ?_) (fun hs => ?_)
    · have hs' : bl x < bl y := by
        simp only [intBits_nat, decide_eq_true_eq] at hs; omega
      walk_at "vg"
      have hm : emz y x < emz x y := by
        unfold emz; rw [if_neg (by omega), if_pos hs']; omega
      refine hn _ _ hm ⟨y, x, w, u, _, hy, hx, rfl, by omega, by omega, ?_, rfl⟩
      rw [← hr]
      conv => rhs; unfold peucl
      rw [dif_neg hy0, dif_pos hs']
    · have hs' : bl y ≤ bl x := by
        simp only [intBits_nat, decide_eq_true_eq] at hs; omega
      have hx0 : x ≠ 0 := by
        rintro rfl
        have := bl_pos.mpr hy0
        rw [bl_zero] at hs'; omega
      have hlt : bl (x ^^^ y * 2 ^ (bl x - bl y)) < bl x := bl_xor_lt (by rw [bl_shift hy0]; omega) hx0
      have hm : emz (x ^^^ y * 2 ^ (bl x - bl y)) y + 1 ≤ emz x y := by
        unfold emz
        rw [if_neg (show ¬ bl x < bl y by omega)]
        split <;> omega
      walk_at "vg"
      refine hn _ _ (by omega) ⟨x ^^^ y * 2 ^ (bl x - bl y), y, u ^^^ w * 2 ^ (bl x - bl y), w, .int ((bl x : Int) - (bl y : Int)), by omega, hy, rfl, ?_, by omega, ?_, ?_⟩
      · have h1 : bl (u ^^^ w * 2 ^ (bl x - bl y)) ≤ max (bl u) (bl w + (bl x - bl y)) := bl_xor_le (by omega) (bl_shift_le (by omega))
        omega
      · rw [← hr]
        conv => rhs; unfold peucl
        rw [dif_neg hy0, dif_neg (by omega)]
      · rw [intBits_nat, intBits_nat, shl_sub hs', shl_sub hs', bitXor_nat, bitXor_nat]
  · have hy0 : y = 0 := by
      by_cases e : y = 0
      · exact e
      · exfalso; apply hc
        rw [decide_eq_true_eq]; omega
    subst hy0
    walk_at "vg"
    have e : peucl x 0 u w = (x, u) := by unfold peucl; rfl
    have := h [.int x, .int (0 : Nat), .int u, .int w, z]
    rw [← hr, e] at this
    exact this
end Vc
end
section
set_option autoImplicit false
set_option linter.unusedSimpArgs false
namespace Vc
/-- the even terms, one by one -/
def ev (v : Nat) : Nat := if v = 0 then 0 else v % 2 + 2 * ev (v / 4)
theorem ev_bit (v : Nat) : ∀ i, (ev v).testBit i = v.testBit (2 * i) := by
  induction v using Nat.strongRecOn with
  | ind v ih =>
    intro i
    unfold ev
    by_cases hv : v = 0
    · subst hv; simp
    · rw [if_neg hv]
      cases i with
      | zero =>
        rw [Nat.mul_zero, Nat.testBit_zero, Nat.testBit_zero]
        congr 1
        rw [eq_iff_iff]; omega
      | succ i =>
        rw [Nat.testBit_succ, show (v % 2 + 2 * ev (v / 4)) / 2 = ev (v / 4) by omega, ih (v / 4) (by omega), show 2 * (i + 1) = 2 * i + 1 + 1 by omega, Nat.testBit_succ, Nat.testBit_succ, Nat.div_div_eq_div_mul]
def sq (a : Nat) : Nat := ctimes a a
theorem sq_xor (a b : Nat) : sq (a ^^^ b) = sq a ^^^ sq b := by
  unfold sq
  rw [ctimes_xor_left, ctimes_xor_right, ctimes_xor_right, ctimes_comm b a, show ctimes a a ^^^ ctimes a b ^^^ (ctimes a b ^^^ ctimes b b) = ctimes a a ^^^ ctimes b b ^^^ (ctimes a b ^^^ ctimes a b) by ac_rfl, Nat.xor_self, Nat.xor_zero]
theorem two_ctimes (a : Nat) : 2 * a = ctimes 2 a := by
  rw [ctimes_comm, show (2 : Nat) = 2 ^ 1 from rfl, ctimes_pow, Nat.pow_one, Nat.mul_comm]
theorem ctimes_left_comm (a b c : Nat) : ctimes a (ctimes b c) = ctimes b (ctimes a c) := by rw [← ctimes_assoc, ctimes_comm a b, ctimes_assoc]
theorem sq_times (a b : Nat) : sq (ctimes a b) = ctimes (sq a) (sq b) := by
  unfold sq
  simp only [ctimes_assoc, ctimes_comm, ctimes_left_comm]
theorem sq_two (a : Nat) : sq (2 * a) = 4 * sq a := by
  unfold sq
  rw [ctimes_dbl, ctimes_comm, ctimes_dbl]; omega
theorem sq_bit (a : Nat) : ∀ i, (sq a).testBit i = (decide (i % 2 = 0) && a.testBit (i / 2)) := by
  induction a using Nat.strongRecOn with
  | ind a ih =>
    intro i
    by_cases ha : a = 0
    · subst ha; unfold sq; rw [ctimes_zero]; simp
    · have e : a = (a % 2) ^^^ 2 * (a / 2) := by
        have := add_xor_sum' (a % 2) (a / 2) (by omega)
        omega
      have h1 : sq (a % 2) = a % 2 := by
        rcases (show a % 2 = 0 ∨ a % 2 = 1 by omega) with q | q <;> rw [q] <;> unfold sq
        · exact ctimes_zero 0
        · exact ctimes_one 1
      have e2 : sq a = (a % 2) ^^^ 4 * sq (a / 2) := by
        conv => lhs; rw [e]
        rw [sq_xor, h1, sq_two]
      rw [e2, Nat.testBit_xor]
      match i with
      | 0 =>
        rw [Nat.testBit_zero, Nat.testBit_zero, Nat.testBit_zero]
        have : 4 * sq (a / 2) % 2 = 0 := by omega
        rw [this]
        simp
      | 1 =>
        have h2 : (a % 2).testBit 1 = false := Nat.testBit_lt_two_pow (by omega)
        have h3 : (4 * sq (a / 2)).testBit 1 = false := by
          rw [show (1 : Nat) = 0 + 1 from rfl, Nat.testBit_succ, Nat.testBit_zero]
          have : 4 * sq (a / 2) / 2 % 2 = 0 := by omega
          rw [this]; rfl
        rw [h2, h3]; rfl
      | i + 2 =>
        have h2 : (a % 2).testBit (i + 2) = false := Nat.testBit_lt_two_pow (by
          have : 2 ^ 1 ≤ 2 ^ (i + 2) := Nat.pow_le_pow_right (by decide) (by omega)
          omega)
        rw [h2, Bool.false_xor, show i + 2 = i + 1 + 1 from rfl, Nat.testBit_succ, Nat.testBit_succ, show 4 * sq (a / 2) / 2 / 2 = sq (a / 2) by omega, ih (a / 2) (by omega), show (i + 1 + 1) % 2 = i % 2 by omega, show (i + 1 + 1) / 2 = i / 2 + 1 by omega, Nat.testBit_succ]
where
  add_xor_sum' (r c : Nat) (h : r < 2) : r ^^^ 2 * c = r + 2 * c := by
    apply Nat.eq_of_testBit_eq
    intro i
    rw [Nat.testBit_xor]
    cases i with
    | zero =>
      rw [Nat.testBit_zero, Nat.testBit_zero, Nat.testBit_zero]
      have h1 : 2 * c % 2 = 0 := by omega
      have h2 : (r + 2 * c) % 2 = r % 2 := by omega
      rw [h1, h2]; simp
    | succ i =>
      rw [Nat.testBit_succ, Nat.testBit_succ, Nat.testBit_succ, show r / 2 = 0 by omega, show 2 * c / 2 = c by omega, show (r + 2 * c) / 2 = c by omega]
      simp
theorem ev_xor (a b : Nat) : ev (a ^^^ b) = ev a ^^^ ev b := by
  apply Nat.eq_of_testBit_eq
  intro i
  rw [Nat.testBit_xor, ev_bit, ev_bit, ev_bit, Nat.testBit_xor]
theorem ev_sq (a : Nat) : ev (sq a) = a := by
  apply Nat.eq_of_testBit_eq
  intro i
  rw [ev_bit, sq_bit, show 2 * i % 2 = 0 by omega, show 2 * i / 2 = i by omega]
  simp
theorem ev_dsq (a : Nat) : ev (2 * sq a) = 0 := by
  apply Nat.eq_of_testBit_eq
  intro i
  rw [ev_bit, Nat.zero_testBit]
  cases i with
  | zero =>
    rw [Nat.mul_zero, Nat.testBit_zero]
    have : 2 * sq a % 2 = 0 := by omega
    rw [this]; rfl
  | succ i =>
    rw [show 2 * (i + 1) = 2 * i + 1 + 1 by omega, Nat.testBit_succ, show 2 * sq a / 2 = sq a by omega, sq_bit]
    rw [decide_eq_false (by omega)]; rfl
theorem ev_sqh (a : Nat) : ev (sq a / 2) = 0 := by
  apply Nat.eq_of_testBit_eq
  intro i
  rw [ev_bit, Nat.zero_testBit, Nat.testBit_div_two, sq_bit, decide_eq_false (by omega)]; rfl
theorem ev_split (v : Nat) : v = sq (ev v) ^^^ 2 * sq (ev (v / 2)) := by
  apply Nat.eq_of_testBit_eq
  intro i
  rw [Nat.testBit_xor, sq_bit, ev_bit]
  cases i with
  | zero =>
    rw [Nat.testBit_zero (2 * _)]
    have : 2 * sq (ev (v / 2)) % 2 = 0 := by omega
    rw [this]; simp
  | succ i =>
    rw [Nat.testBit_succ (2 * _), show 2 * sq (ev (v / 2)) / 2 = sq (ev (v / 2)) by omega, sq_bit, ev_bit]
    rcases Nat.mod_two_eq_zero_or_one i with q | q
    · rw [decide_eq_false (show ¬ (i + 1) % 2 = 0 by omega), decide_eq_true q, Nat.testBit_div_two, show 2 * (i / 2) + 1 = i + 1 by omega]
      simp
    · rw [decide_eq_true (show (i + 1) % 2 = 0 by omega), decide_eq_false (show ¬ i % 2 = 0 by omega), show 2 * ((i + 1) / 2) = i + 1 by omega]
      simp
theorem sq_inj {a b c d : Nat} (h : sq a ^^^ 2 * sq b = sq c ^^^ 2 * sq d) : a = c ∧ b = d := by
  constructor
  · have := congrArg ev h
    rwa [ev_xor, ev_xor, ev_sq, ev_sq, ev_dsq, ev_dsq, Nat.xor_zero, Nat.xor_zero] at this
  · have := congrArg (fun x => ev (x / 2)) h
    simp only [Nat.xor_div_two, ev_xor, ev_sqh, Nat.zero_xor] at this
    rwa [show 2 * sq b / 2 = sq b by omega, show 2 * sq d / 2 = sq d by omega, ev_sq, ev_sq] at this

/-- one half: square roots modulo M -/
theorem halve {M T b a w k E O : Nat} (hM : M % 2 = 1) (hE : E = ev M) (hO : O = ev (M / 2)) (eu : (T, b) = peucl O E 1 0) (ha : a = pshare (T ^^^ ctimes b O) E) (hw : w = ctimes E b ^^^ 2 * ctimes O a) (hk : k = pshare M T) :
    E ≠ 0 ∧ T ≠ 0 ∧ k ≠ 0 ∧ M = ctimes k T ∧ k % 2 = 1 ∧ ∀ r v, prest (sq r ^^^ v) M = 0 ↔ prest (ev (v / 2)) T = 0 ∧ prest (r ^^^ ev v ^^^ ctimes w (pshare (ev (v / 2)) T)) k = 0 := by
  have hMs : M = sq E ^^^ ctimes 2 (sq O) := by rw [hE, hO, ← two_ctimes]; exact ev_split M
  have hM0 : M ≠ 0 := by omega
  have hE0 : E ≠ 0 := by
    rintro rfl
    have : (ev M).testBit 0 = true := by
      rw [ev_bit, Nat.mul_zero, Nat.testBit_zero]; simp [hM]
    rw [← hE] at this; simp at this
  obtain ⟨e1, e2⟩ := peucl_ok (a0 := O) (p := E) _ O E 1 0 (Nat.le_refl _) (by rw [ctimes_comm, ctimes_one, Nat.xor_self]; exact pdvd_zero E) (by rw [zero_ctimes, Nat.xor_zero]; exact pdvd_refl E)
  rw [← eu] at e1 e2
  simp only at e1 e2
  obtain ⟨⟨o, ho⟩, ⟨e, he⟩⟩ := (e2 T).mp (pdvd_refl T)
  have hT0 : T ≠ 0 := by
    rintro rfl
    rw [ctimes_zero] at he; exact hE0 he
  have hT : T = ctimes a E ^^^ ctimes b O := by
    have := pdiv hE0 (T ^^^ ctimes b O)
    rw [(pdvd_iff hE0 _).mp e1, Nat.xor_zero, ← ha] at this
    rw [← this, Nat.xor_assoc, Nat.xor_self, Nat.xor_zero]
  have hbez : ctimes a e ^^^ ctimes b o = 1 := by
    refine ctimes_cancel hT0 ?_
    rw [ctimes_xor_left, ctimes_assoc, ctimes_assoc, ← he, ← ho, ← hT, ctimes_comm, ctimes_one]
  have hMT : M = ctimes (ctimes e E ^^^ ctimes 2 (ctimes o O)) T := by
    rw [hMs]
    unfold sq
    conv => lhs; arg 1; arg 1; rw [he]
    conv => lhs; arg 2; arg 2; arg 1; rw [ho]
    simp only [ctimes_xor_left, ctimes_xor_right, ctimes_comm, ctimes_left_comm, ctimes_assoc]
  have hk' : k = ctimes e E ^^^ ctimes 2 (ctimes o O) := by
    rw [hk]
    exact (prest_unique (p := T) (v := M) (r := 0) (by rw [bl_zero]; exact bl_pos.mpr hT0) (by rw [Nat.xor_zero]; exact hMT)).2
  rw [← hk'] at hMT
  have hk0 : k ≠ 0 := by
    rintro rfl
    rw [zero_ctimes] at hMT; exact hM0 hMT
  have hkodd : k % 2 = 1 := by
    rcases Nat.mod_two_eq_zero_or_one k with q | q
    · exfalso
      rw [show k = 2 * (k / 2) by omega, ctimes_dbl] at hMT
      omega
    · exact q
  refine ⟨hE0, hT0, hk0, hMT, hkodd, fun r v => ?_⟩
  rw [← pdvd_iff hM0, ← pdvd_iff hT0, ← pdvd_iff hk0]
  have hw' : w = ctimes E b ^^^ ctimes 2 (ctimes O a) := by rw [hw, two_ctimes]
  constructor
  · rintro ⟨q, hq⟩
    have hv : sq r ^^^ v = sq (r ^^^ ev v) ^^^ 2 * sq (ev (v / 2)) := by
      conv => lhs; rw [ev_split v]
      rw [sq_xor, Nat.xor_assoc]
    have hqM : ctimes q M = sq (ctimes (ev q) E ^^^ ctimes 2 (ctimes (ev (q / 2)) O)) ^^^ 2 * sq (ctimes (ev q) O ^^^ ctimes (ev (q / 2)) E) := by
      conv => lhs; rw [ev_split q, hMs]
      rw [two_ctimes, two_ctimes]
      simp only [sq_xor, sq_times]
      unfold sq
      simp only [ctimes_xor_left, ctimes_xor_right, ctimes_comm, ctimes_left_comm, ctimes_assoc]
      ac_rfl
    rw [hv, hqM] at hq
    obtain ⟨h1, h2⟩ := sq_inj hq
    generalize ev q = X0 at *
    generalize ev (q / 2) = Y0 at *
    have hTV : pdvd T (ev (v / 2)) := by
      rw [h2]
      exact pdvd_xor (pdvd_times _ ⟨o, ho⟩) (pdvd_times _ ⟨e, he⟩)
    refine ⟨hTV, ?_⟩
    have hs := pdiv hT0 (ev (v / 2))
    rw [(pdvd_iff hT0 _).mp hTV, Nat.xor_zero] at hs
    generalize pshare (ev (v / 2)) T = s at *
    rw [h1, hw']
    -- X o = Y e
    have hXY : ctimes (X0 ^^^ ctimes b s) o ^^^ ctimes (Y0 ^^^ ctimes a s) e = 0 := by
      refine (ctimes_eq_zero (b := T) ?_).resolve_right hT0
      have h3 : ctimes s (ctimes a E ^^^ ctimes b O) = ctimes X0 O ^^^ ctimes Y0 E := by rw [← hT, ← hs, h2]
      have : ctimes (ctimes (X0 ^^^ ctimes b s) o ^^^ ctimes (Y0 ^^^ ctimes a s) e) T = (ctimes X0 O ^^^ ctimes Y0 E) ^^^ ctimes s (ctimes a E ^^^ ctimes b O) := by
        rw [ctimes_xor_left, ctimes_assoc, ctimes_assoc, ← ho, ← he]
        simp only [ctimes_xor_left, ctimes_xor_right, ctimes_comm, ctimes_left_comm, ctimes_assoc]
        ac_rfl
      rw [this, h3, Nat.xor_self]
    have hXY' := xor_eq_zero hXY
    refine ⟨ctimes a (X0 ^^^ ctimes b s) ^^^ ctimes b (Y0 ^^^ ctimes a s), ?_⟩
    generalize hX : X0 ^^^ ctimes b s = X at *
    generalize hY : Y0 ^^^ ctimes a s = Y at *
    have hXe : X = ctimes e (ctimes a X ^^^ ctimes b Y) := by
      have : X = ctimes X (ctimes a e ^^^ ctimes b o) := by rw [hbez, ctimes_one]
      conv => lhs; rw [this, ctimes_xor_right, ctimes_left_comm X b, hXY']
      simp only [ctimes_xor_left, ctimes_xor_right, ctimes_comm, ctimes_left_comm, ctimes_assoc]
    have hYo : Y = ctimes o (ctimes a X ^^^ ctimes b Y) := by
      have : Y = ctimes Y (ctimes a e ^^^ ctimes b o) := by rw [hbez, ctimes_one]
      conv => lhs; rw [this, ctimes_xor_right, ctimes_left_comm Y a, ← hXY']
      simp only [ctimes_xor_left, ctimes_xor_right, ctimes_comm, ctimes_left_comm, ctimes_assoc]
    have : ctimes X0 E ^^^ ctimes 2 (ctimes Y0 O) ^^^ ctimes (ctimes E b ^^^ ctimes 2 (ctimes O a)) s = ctimes X E ^^^ ctimes 2 (ctimes Y O) := by
      rw [← hX, ← hY]
      simp only [ctimes_xor_left, ctimes_xor_right, ctimes_comm, ctimes_left_comm, ctimes_assoc]
      ac_rfl
    rw [this, hk']
    generalize hl : ctimes a X ^^^ ctimes b Y = l at *
    rw [hXe, hYo]
    simp only [ctimes_xor_left, ctimes_xor_right, ctimes_comm, ctimes_left_comm, ctimes_assoc]
  · rintro ⟨hTV, l, hl⟩
    have hs := pdiv hT0 (ev (v / 2))
    rw [(pdvd_iff hT0 _).mp hTV, Nat.xor_zero] at hs
    generalize pshare (ev (v / 2)) T = s at *
    have h1 : r ^^^ ev v = ctimes (ctimes b s ^^^ ctimes l e) E ^^^ ctimes 2 (ctimes (ctimes a s ^^^ ctimes l o) O) := by
      have : r ^^^ ev v = ctimes w s ^^^ ctimes l k := by
        rw [← hl, show r ^^^ ev v ^^^ ctimes w s = ctimes w s ^^^ (r ^^^ ev v) by ac_rfl, xor_cancel]
      rw [this, hw', hk']
      simp only [ctimes_xor_left, ctimes_xor_right, ctimes_comm, ctimes_left_comm, ctimes_assoc]
      ac_rfl
    have h2 : ev (v / 2) = ctimes (ctimes b s ^^^ ctimes l e) O ^^^ ctimes (ctimes a s ^^^ ctimes l o) E := by
      have h0 : ctimes (ctimes l e) O = ctimes (ctimes l o) E := by
        conv => lhs; rw [ho]
        conv => rhs; rw [he]
        simp only [ctimes_comm, ctimes_left_comm, ctimes_assoc]
      rw [hs, ctimes_xor_left, ctimes_xor_left, h0, show ctimes (ctimes b s) O ^^^ ctimes (ctimes l o) E ^^^ (ctimes (ctimes a s) E ^^^ ctimes (ctimes l o) E) = ctimes (ctimes b s) O ^^^ ctimes (ctimes a s) E ^^^ (ctimes (ctimes l o) E ^^^ ctimes (ctimes l o) E) by ac_rfl, Nat.xor_self, Nat.xor_zero]
      conv => lhs; rw [hT]
      simp only [ctimes_xor_left, ctimes_xor_right, ctimes_comm, ctimes_left_comm, ctimes_assoc]
      ac_rfl
    generalize ctimes b s ^^^ ctimes l e = X at *
    generalize ctimes a s ^^^ ctimes l o = Y at *
    refine ⟨sq X ^^^ 2 * sq Y, ?_⟩
    have hv : sq r ^^^ v = sq (r ^^^ ev v) ^^^ 2 * sq (ev (v / 2)) := by
      conv => lhs; rw [ev_split v]
      rw [sq_xor, Nat.xor_assoc]
    rw [hv, h1, h2, hMs, two_ctimes, two_ctimes]
    simp only [sq_xor, sq_times]
    unfold sq
    simp only [ctimes_xor_left, ctimes_xor_right, ctimes_comm, ctimes_left_comm, ctimes_assoc]
    ac_rfl
end Vc
end
section
set_option autoImplicit false
set_option linter.unusedSimpArgs false
namespace Vc
def masksE : List (Nat × Nat) := [(1, 3689348814741910323), (2, 1085102592571150095), (4, 71777214294589695), (8, 281470681808895), (16, 4294967295)]
def estep (s m v : Nat) : Nat := (v ||| v / 2 ^ s) &&& m
theorem estep_bit (s m v i : Nat) : (estep s m v).testBit i = ((v.testBit i || v.testBit (i + s)) && m.testBit i) := by
  unfold estep
  rw [Nat.testBit_and, Nat.testBit_or, Nat.testBit_div_two_pow]
theorem mask_big {m j : Nat} (hm : m < 2 ^ 64) (h : ¬ j < 64) : m.testBit j = false := Nat.testBit_lt_two_pow (Nat.lt_of_lt_of_le hm (Nat.pow_le_pow_right (by decide) (by omega)))
theorem u_big {u j : Nat} (hm : u < 2 ^ 32) (h : ¬ j < 32) : u.testBit j = false := Nat.testBit_lt_two_pow (Nat.lt_of_lt_of_le hm (Nat.pow_le_pow_right (by decide) (by omega)))
theorem es1 {u v : Nat} (hu : u < 2 ^ 32) (h : ∀ j, v.testBit j = (decide (j % 2 < 1) && u.testBit (j / 2 * 1 + j % 1))) (j : Nat) :
    (estep 1 3689348814741910323 v).testBit j = (decide (j % 4 < 2) && u.testBit (j / 4 * 2 + j % 2)) := by
  have hm : ∀ j, j < 64 → (3689348814741910323 : Nat).testBit j = decide (j % 4 < 2) := by decide +kernel
  rw [estep_bit, h, h]
  by_cases hj : j < 64
  · rw [hm j hj]
    by_cases c1 : j % 4 < 2
    · by_cases c2 : j % 2 < 1
      · rw [decide_eq_true c1, decide_eq_true c2, decide_eq_false (show ¬ (j + 1) % 2 < 1 by omega), show j / 4 * 2 + j % 2 = j / 2 * 1 + j % 1 by omega]; simp
      · rw [decide_eq_true c1, decide_eq_false c2, decide_eq_true (show (j + 1) % 2 < 1 by omega), show j / 4 * 2 + j % 2 = (j + 1) / 2 * 1 + (j + 1) % 1 by omega]; simp
    · rw [decide_eq_false c1]; simp
  · rw [mask_big (by decide) hj, u_big hu (show ¬ j / 4 * 2 + j % 2 < 32 by omega)]; simp
theorem es2 {u v : Nat} (hu : u < 2 ^ 32) (h : ∀ j, v.testBit j = (decide (j % 4 < 2) && u.testBit (j / 4 * 2 + j % 2))) (j : Nat) :
    (estep 2 1085102592571150095 v).testBit j = (decide (j % 8 < 4) && u.testBit (j / 8 * 4 + j % 4)) := by
  have hm : ∀ j, j < 64 → (1085102592571150095 : Nat).testBit j = decide (j % 8 < 4) := by decide +kernel
  rw [estep_bit, h, h]
  by_cases hj : j < 64
  · rw [hm j hj]
    by_cases c1 : j % 8 < 4
    · by_cases c2 : j % 4 < 2
      · rw [decide_eq_true c1, decide_eq_true c2, decide_eq_false (show ¬ (j + 2) % 4 < 2 by omega), show j / 8 * 4 + j % 4 = j / 4 * 2 + j % 2 by omega]; simp
      · rw [decide_eq_true c1, decide_eq_false c2, decide_eq_true (show (j + 2) % 4 < 2 by omega), show j / 8 * 4 + j % 4 = (j + 2) / 4 * 2 + (j + 2) % 2 by omega]; simp
    · rw [decide_eq_false c1]; simp
  · rw [mask_big (by decide) hj, u_big hu (show ¬ j / 8 * 4 + j % 4 < 32 by omega)]; simp
theorem es4 {u v : Nat} (hu : u < 2 ^ 32) (h : ∀ j, v.testBit j = (decide (j % 8 < 4) && u.testBit (j / 8 * 4 + j % 4))) (j : Nat) :
    (estep 4 71777214294589695 v).testBit j = (decide (j % 16 < 8) && u.testBit (j / 16 * 8 + j % 8)) := by
  have hm : ∀ j, j < 64 → (71777214294589695 : Nat).testBit j = decide (j % 16 < 8) := by decide +kernel
  rw [estep_bit, h, h]
  by_cases hj : j < 64
  · rw [hm j hj]
    by_cases c1 : j % 16 < 8
    · by_cases c2 : j % 8 < 4
      · rw [decide_eq_true c1, decide_eq_true c2, decide_eq_false (show ¬ (j + 4) % 8 < 4 by omega), show j / 16 * 8 + j % 8 = j / 8 * 4 + j % 4 by omega]; simp
      · rw [decide_eq_true c1, decide_eq_false c2, decide_eq_true (show (j + 4) % 8 < 4 by omega), show j / 16 * 8 + j % 8 = (j + 4) / 8 * 4 + (j + 4) % 4 by omega]; simp
    · rw [decide_eq_false c1]; simp
  · rw [mask_big (by decide) hj, u_big hu (show ¬ j / 16 * 8 + j % 8 < 32 by omega)]; simp
theorem es8 {u v : Nat} (hu : u < 2 ^ 32) (h : ∀ j, v.testBit j = (decide (j % 16 < 8) && u.testBit (j / 16 * 8 + j % 8))) (j : Nat) :
    (estep 8 281470681808895 v).testBit j = (decide (j % 32 < 16) && u.testBit (j / 32 * 16 + j % 16)) := by
  have hm : ∀ j, j < 64 → (281470681808895 : Nat).testBit j = decide (j % 32 < 16) := by decide +kernel
  rw [estep_bit, h, h]
  by_cases hj : j < 64
  · rw [hm j hj]
    by_cases c1 : j % 32 < 16
    · by_cases c2 : j % 16 < 8
      · rw [decide_eq_true c1, decide_eq_true c2, decide_eq_false (show ¬ (j + 8) % 16 < 8 by omega), show j / 32 * 16 + j % 16 = j / 16 * 8 + j % 8 by omega]; simp
      · rw [decide_eq_true c1, decide_eq_false c2, decide_eq_true (show (j + 8) % 16 < 8 by omega), show j / 32 * 16 + j % 16 = (j + 8) / 16 * 8 + (j + 8) % 8 by omega]; simp
    · rw [decide_eq_false c1]; simp
  · rw [mask_big (by decide) hj, u_big hu (show ¬ j / 32 * 16 + j % 16 < 32 by omega)]; simp
theorem es16 {u v : Nat} (hu : u < 2 ^ 32) (h : ∀ j, v.testBit j = (decide (j % 32 < 16) && u.testBit (j / 32 * 16 + j % 16))) (j : Nat) :
    (estep 16 4294967295 v).testBit j = (decide (j % 64 < 32) && u.testBit (j / 64 * 32 + j % 32)) := by
  have hm : ∀ j, j < 64 → (4294967295 : Nat).testBit j = decide (j % 64 < 32) := by decide +kernel
  rw [estep_bit, h, h]
  by_cases hj : j < 64
  · rw [hm j hj]
    by_cases c1 : j % 64 < 32
    · by_cases c2 : j % 32 < 16
      · rw [decide_eq_true c1, decide_eq_true c2, decide_eq_false (show ¬ (j + 16) % 32 < 16 by omega), show j / 64 * 32 + j % 32 = j / 32 * 16 + j % 16 by omega]; simp
      · rw [decide_eq_true c1, decide_eq_false c2, decide_eq_true (show (j + 16) % 32 < 16 by omega), show j / 64 * 32 + j % 32 = (j + 16) / 32 * 16 + (j + 16) % 16 by omega]; simp
    · rw [decide_eq_false c1]; simp
  · rw [mask_big (by decide) hj, u_big hu (show ¬ j / 64 * 32 + j % 32 < 32 by omega)]; simp
theorem ev_lt {v k : Nat} (h : v < 2 ^ (2 * k)) : ev v < 2 ^ k := by
  apply Nat.lt_pow_two_of_testBit
  intro i hi
  rw [ev_bit]
  exact Nat.testBit_lt_two_pow (Nat.lt_of_lt_of_le h (Nat.pow_le_pow_right (by decide) (by omega)))
theorem evens_eq {v : Nat} (h : v < 2 ^ 64) : masksE.foldl (fun v p => estep p.1 p.2 v) (v &&& 6148914691236517205) = ev v := by
  have hu : ev v < 2 ^ 32 := ev_lt h
  have h0 : ∀ j, (v &&& 6148914691236517205).testBit j = (decide (j % 2 < 1) && (ev v).testBit (j / 2 * 1 + j % 1)) := by
    intro j
    have hm : ∀ j, j < 64 → (6148914691236517205 : Nat).testBit j = decide (j % 2 < 1) := by decide +kernel
    rw [Nat.testBit_and]
    by_cases hj : j < 64
    · rw [hm j hj, ev_bit]
      by_cases c : j % 2 < 1
      · rw [decide_eq_true c, show 2 * (j / 2 * 1 + j % 1) = j by omega]; simp
      · rw [decide_eq_false c]; simp
    · rw [mask_big (m := v) h hj, u_big hu (show ¬ j / 2 * 1 + j % 1 < 32 by omega)]; simp
  have h5 := es16 hu (es8 hu (es4 hu (es2 hu (es1 hu h0))))
  apply Nat.eq_of_testBit_eq
  intro j
  show (estep 16 _ (estep 8 _ (estep 4 _ (estep 2 _ (estep 1 _ (v &&& 6148914691236517205)))))).testBit j = _
  rw [h5]
  by_cases hj : j < 32
  · rw [decide_eq_true (show j % 64 < 32 by omega), show j / 64 * 32 + j % 32 = j by omega]; simp
  · rw [u_big hu hj]
    by_cases c : j % 64 < 32
    · rw [u_big hu (show ¬ j / 64 * 32 + j % 32 < 32 by omega)]; simp
    · rw [decide_eq_false c]; simp
theorem prev_succ (n v : Nat) : 2 * prev n v ||| (v / 2 ^ n % 2) = prev (n + 1) v := by
  apply Nat.eq_of_testBit_eq
  intro i
  rw [Nat.testBit_or, prev_bit]
  cases i with
  | zero =>
    have e : (v / 2 ^ n % 2).testBit 0 = v.testBit n := by
      rw [Nat.testBit_zero, Nat.testBit_eq_decide_div_mod_eq, Nat.mod_mod]
    rw [e, Nat.testBit_zero]
    have : 2 * prev n v % 2 = 0 := by omega
    rw [this]; simp
  | succ i =>
    have e : (v / 2 ^ n % 2).testBit (i + 1) = false := Nat.testBit_lt_two_pow (by
      have h2 : 2 ^ 1 ≤ 2 ^ (i + 1) := Nat.pow_le_pow_right (by decide) (by omega)
      have := Nat.mod_lt (v / 2 ^ n) (show 0 < 2 by decide)
      omega)
    rw [e, Nat.testBit_succ, show 2 * prev n v / 2 = prev n v by omega, prev_bit, Bool.or_false]
    by_cases hi : i < n
    · simp only [hi, decide_true, Bool.true_and, show i + 1 < n + 1 by omega]
      congr 1; omega
    · simp [hi]
end Vc
end
section
open PySem PySem.W PyProof.Rows PySem.Calls
set_option autoImplicit false
set_option maxRecDepth 100000
namespace Vc
local macro_rules | `(tactic| walk_at "vs") => `(tactic| first | exact True.intro | exact rfl | omega | (simp only [intBits_nat]; omega) | (simp only [lim, List.length]; omega) | exact IntMulOk.of_left (by decide) | exact Nat.le_of_ble_eq_true rfl)
local macro_rules | `(tactic| walk_at "vg") => `(tactic| ((repeat ((conv => whnf); (try dsimp only [List.set, setvs]); refine And.intro (by walk_at "vs") ?_)); (conv => whnf); (try dsimp only [List.set, setvs])))

def masksV : SV := .tup (masksE.map fun p => .tup [.int (p.1 : Nat), .int (p.2 : Nat)])
def spEvens (args : List SV) (objs : List AO) (K : SV → List AO → Prop) : Prop := match args with
  | [.int v, m] => (0 ≤ v ∧ v.toNat < 2 ^ 64 ∧ m = masksV) ∧ K (.int (ev v.toNat : Nat)) objs
  | _ => False
def spShare (args : List SV) (objs : List AO) (K : SV → List AO → Prop) : Prop := match args with
  | [.int v, .int p] => (0 ≤ v ∧ 0 < p ∧ bl v.toNat ≤ 2 ^ 26 ∧ bl p.toNat ≤ 2 ^ 26) ∧ K (.tup [.int (pshare v.toNat p.toNat : Nat), .int (prest v.toNat p.toNat : Nat)]) objs
  | _ => False
def spTimes (args : List SV) (objs : List AO) (K : SV → List AO → Prop) : Prop := match args with
  | [.int v, .int p] => (0 ≤ v ∧ 0 ≤ p ∧ bl v.toNat + bl p.toNat ≤ 2 ^ 26) ∧ K (.int (ctimes v.toNat p.toNat : Nat)) objs
  | _ => False
def spEuclid (args : List SV) (objs : List AO) (K : SV → List AO → Prop) : Prop := match args with
  | [.int v, .int p] => (0 ≤ v ∧ 0 ≤ p ∧ bl v.toNat ≤ 1000 ∧ bl p.toNat ≤ 1000) ∧ K (.tup [.int ((peucl v.toNat p.toNat 1 0).1 : Nat), .int ((peucl v.toNat p.toNat 1 0).2 : Nat)]) objs
  | _ => False
/-- the parts of one halving -/
def hT (M : Nat) : Nat := (peucl (ev (M / 2)) (ev M) 1 0).1
def hb (M : Nat) : Nat := (peucl (ev (M / 2)) (ev M) 1 0).2
def ha (M : Nat) : Nat := pshare (hT M ^^^ ctimes (hb M) (ev (M / 2))) (ev M)
def hw (M : Nat) : Nat := ctimes (ev M) (hb M) ^^^ 2 * ctimes (ev (M / 2)) (ha M)
def hk (M : Nat) : Nat := pshare M (hT M)
def spHalved (args : List SV) (objs : List AO) (K : SV → List AO → Prop) : Prop := match args with
  | [.int M, m] => (0 ≤ M ∧ M.toNat % 2 = 1 ∧ bl M.toNat ≤ 60 ∧ m = masksV) ∧ K (.tup [.int (hw M.toNat : Nat), .int (hT M.toNat : Nat), .int (hk M.toNat : Nat)]) objs
  | _ => False
/-- the letters of a pattern, the last first -/
def spellL (p : Nat) : Nat → List Nat → List Nat
  | _, [] => []
  | i, c :: r => (if p.testBit i then c ^^^ 32 else c) :: spellL p (i + 1) r
def spelt (l : List Nat) (p : Nat) : List Nat := (spellL p 0 l).reverse
def spSpelt (args : List SV) (objs : List AO) (K : SV → List AO → Prop) : Prop := match args with
  | [.lst l, .int p] => ∃ ls : List Nat, (l = natsI ls ∧ ls.length ≤ 1000 ∧ (∀ c ∈ ls, c < 256) ∧ 0 ≤ p ∧ bl p.toNat ≤ 1000) ∧ ∀ objs', KeepsBut objs.length objs objs' → K (.bytes (spelt ls p.toNat)) objs'
  | _ => False
def spTurned (args : List SV) (objs : List AO) (K : SV → List AO → Prop) : Prop := match args with
  | [.int v, .int n] => (0 ≤ v ∧ 0 ≤ n ∧ n ≤ 64 ∧ bl v.toNat ≤ 1000) ∧ K (.int (prev n.toNat v.toNat : Nat)) objs
  | _ => False
structure LeftPre (D : List Nat) (b P : Int) (n : Int) : Prop where
  b0 : 0 ≤ b
  P0 : 0 ≤ P
  n0 : 0 ≤ n
  hP : bl P.toNat = n.toNat + 1
  hn : n ≤ 64
  hD : D.length ≤ 1000
  hb : b.toNat < 2 ^ n.toNat
  hB : ∀ x ∈ D, x < 256
def spLeft (args : List SV) (objs : List AO) (K : SV → List AO → Prop) : Prop := match args with
  | [.bytes D, .int b, .int P, .int n, .bool back] => LeftPre D b P n ∧ K (.int (crcv back P.toNat n.toNat D b.toNat : Nat)) objs
  | _ => False
def L3 : LawP where
  gl := fun _ => masksV
  sp := fun k => match k with
    | 19 => spCopy
    | 30 => spEvens | 31 => spShare | 32 => spTimes | 33 => spEuclid | 34 => spHalved | 35 => spSpelt | 36 => spTurned | 37 => spLeft
    | _ => fun _ _ _ => False
  depth := fun k => match k with
    | 19 => 7
    | 30 => 1 | 31 => 1 | 32 => 1 | 33 => 1 | 34 => 2 | 35 => 1 | 36 => 1 | 37 => 2
    | _ => 1

section
variable {ℓ : Nat} {args : List SV} {objs : List AO} {K : SV → List AO → Prop}
theorem vl_share {c : C} (h : spShare args objs K) : ∃ v p, args = [.int v, .int p] ∧ wpSs c x_law_share ⟨vars0 args 5, objs⟩ fun fl σ => K (retV fl) σ.objs := by
  unfold spShare at h
  split at h
  · rename_i v p
    obtain ⟨⟨h1, h2, h3, h4⟩, h⟩ := h
    obtain ⟨v, rfl⟩ := Int.eq_ofNat_of_zero_le h1
    obtain ⟨p, rfl⟩ := Int.eq_ofNat_of_zero_le (Int.le_of_lt h2)
    exact ⟨_, _, rfl, vc_law_share (by omega) h3 h4 fun vars => h⟩
  · exact h.elim
theorem vl_times {c : C} (h : spTimes args objs K) : ∃ v p, args = [.int v, .int p] ∧ wpSs c x_law_times ⟨vars0 args 3, objs⟩ fun fl σ => K (retV fl) σ.objs := by
  unfold spTimes at h
  split at h
  · rename_i v p
    obtain ⟨⟨h1, h2, h3⟩, h⟩ := h
    obtain ⟨v, rfl⟩ := Int.eq_ofNat_of_zero_le h1
    obtain ⟨p, rfl⟩ := Int.eq_ofNat_of_zero_le h2
    exact ⟨_, _, rfl, vc_law_times h3 fun vars => h⟩
  · exact h.elim
theorem vl_euclid {c : C} (h : spEuclid args objs K) : ∃ v p, args = [.int v, .int p] ∧ wpSs c x_law_euclid ⟨vars0 args 5, objs⟩ fun fl σ => K (retV fl) σ.objs := by
  unfold spEuclid at h
  split at h
  · rename_i v p
    obtain ⟨⟨h1, h2, h3, h4⟩, h⟩ := h
    obtain ⟨v, rfl⟩ := Int.eq_ofNat_of_zero_le h1
    obtain ⟨p, rfl⟩ := Int.eq_ofNat_of_zero_le h2
    exact ⟨_, _, rfl, vc_law_euclid h3 h4 fun vars => h⟩
  · exact h.elim
theorem estep_int (s m v : Nat) : Builtin.bitAnd (Builtin.bitOr (v : Int) ((v : Int).fdiv (2 ^ ((s : Int)).toNat))) m = ((estep s m v : Nat) : Int) := by
  rw [shr_nat, bitOr_nat, bitAnd_nat]; rfl
theorem vl_evens {c : C} (h : spEvens args objs K) : ∃ v m, args = [.int v, m] ∧ wpSs c x_law_evens ⟨vars0 args 4, objs⟩ fun fl σ => K (retV fl) σ.objs := by
  unfold spEvens at h
  split at h
  · rename_i v m
    obtain ⟨⟨h1, h2, rfl⟩, h⟩ := h
    obtain ⟨v, rfl⟩ := Int.eq_ofNat_of_zero_le h1
    rw [Int.toNat_natCast] at h h2
    refine ⟨_, _, rfl, ?_⟩
    rw [← evens_eq h2] at h
    have e0 : Builtin.bitAnd (v : Int) 6148914691236517205 = ((v &&& 6148914691236517205 : Nat) : Int) := bitAnd_nat v 6148914691236517205
    unfold masksV
    generalize hl : masksE.map (fun p => SV.tup [.int (p.1 : Nat), .int (p.2 : Nat)]) = l
    have hlen : l.length = 5 := by rw [← hl]; rfl
    walk_at "vg"
    rw [e0]
    generalize v &&& 6148914691236517205 = v0 at *
    refine for_ok (fun i σ => ∃ x y, σ = ⟨[.int (((masksE.take i).foldl (fun v p => estep p.1 p.2 v) v0 : Nat)), .tup l, x, y], objs⟩) ⟨_, _, rfl⟩ (fun _ _ _ => trivial) ?_ ?_
    · rintro i x σ R hx ⟨y, z, rfl⟩ hnext _ _ _
      have hi : i < 5 := by rw [← hlen]; exact (List.getElem?_eq_some_iff.mp hx).1
      have hlm := hl
      have hp : ∃ p, masksE[i]? = some p ∧ x = .tup [.int (p.1 : Nat), .int (p.2 : Nat)] := by
        have hl : masksE[i]? = some masksE[i] := List.getElem?_eq_getElem hi
        refine ⟨_, hl, ?_⟩
        have e : (masksE.map fun p => SV.tup [.int (p.1 : Nat), .int (p.2 : Nat)])[i]? = some x := by rw [hlm]; exact hx
        rw [List.getElem?_map, hl] at e
        simpa using e.symm
      obtain ⟨⟨s, m⟩, hp, rfl⟩ := hp
      generalize hu : (masksE.take i).foldl (fun v p => estep p.1 p.2 v) v0 = u
      walk_at "vg"
      refine hnext _ ⟨.int (s : Nat), .int (m : Nat), ?_⟩
      rw [estep_int, List.take_add_one, hp, ← hu, List.foldl_append]
      rfl
    · rintro σ ⟨x, y, rfl⟩
      rw [hlen, show masksE.take 5 = masksE from rfl]
      walk_at "vg"
      exact h
  · exact h.elim
theorem vl_turned (h : spTurned args objs K) : ∃ v n, args = [.int v, .int n] ∧ wpSs (cT L3 ℓ) x_law_turned ⟨vars0 args 4, objs⟩ fun fl σ => K (retV fl) σ.objs := by
  unfold spTurned at h
  split at h
  · rename_i v n
    obtain ⟨⟨h1, h2, h3, h4⟩, h⟩ := h
    obtain ⟨v, rfl⟩ := Int.eq_ofNat_of_zero_le h1
    obtain ⟨n, rfl⟩ := Int.eq_ofNat_of_zero_le h2
    rw [Int.toNat_natCast, Int.toNat_natCast] at h
    rw [Int.toNat_natCast] at h4
    refine ⟨_, _, rfl, ?_⟩
    walk_at "vg"
    refine ⟨by rw [rng_len]; simp only [lim]; omega, ?_⟩
    refine for_ok (fun i σ => ∃ z, σ = ⟨[.int v, .int n, .int (prev i v : Nat), z], objs⟩) ⟨_, rfl⟩ (fun _ σ _ => rng_small (by omega)) ?_ ?_
    · rintro i x σ R hx ⟨z, rfl⟩ hnext _ _ _
      obtain ⟨hi, rfl⟩ := rng_get hx
      have hb : bl (prev i v) ≤ i := bl_le.mpr (prev_lt i v)
      have e1 : Builtin.bitOr (((prev i v : Nat) : Int) * 2 ^ (1 : Int).toNat) (Builtin.bitAnd ((v : Int).fdiv (2 ^ ((i : Int)).toNat)) 1) = ((prev (i + 1) v : Nat) : Int) := by
        rw [shr_nat, one_nat, shl_nat, bitAnd_nat, bitOr_nat, Nat.pow_one, Nat.mul_comm, ← prev_succ, Nat.and_one_is_mod]
      walk_at "vg"
      rw [e1]
      exact hnext _ ⟨_, rfl⟩
    · rintro σ ⟨z, rfl⟩
      rw [rng_len]
      walk_at "vg"
      exact h
  · exact h.elim
theorem prev_mod (n P : Nat) : prev n (P % 2 ^ n) = prev n P := by
  apply Nat.eq_of_testBit_eq
  intro i
  rw [prev_bit, prev_bit, Nat.testBit_mod_two_pow]
  by_cases hi : i < n
  · simp [hi, show n - 1 - i < n by omega]
  · simp [hi]
theorem vl_left (hℓ : 1 ≤ ℓ) (h : spLeft args objs K) : ∃ D b P n back, args = [.bytes D, .int b, .int P, .int n, .bool back] ∧ wpSs (cT L3 ℓ) x_law_left ⟨vars0 args 9, objs⟩ fun fl σ => K (retV fl) σ.objs := by
  unfold spLeft at h
  split at h
  · rename_i D b P n back
    obtain ⟨⟨b0, P0, n0, hP, hn, hD, hb, hB⟩, h⟩ := h
    refine ⟨_, _, _, _, _, rfl, ?_⟩
    obtain ⟨b, rfl⟩ := Int.eq_ofNat_of_zero_le b0
    obtain ⟨P, rfl⟩ := Int.eq_ofNat_of_zero_le P0
    obtain ⟨n, rfl⟩ := Int.eq_ofNat_of_zero_le n0
    simp only [Int.toNat_natCast] at h hP hb
    have hp : P ≠ 0 := by rintro rfl; rw [bl_zero] at hP; omega
    have hbn : bl b ≤ n := bl_le.mpr hb
    have e8 : (8 : Int) * (D.length : Int) = ((8 * D.length : Nat) : Int) := by push_cast; rfl
    cases back with
    | false =>
      have hL : bl (lev D.reverse) ≤ 8 * D.length := by
        have := lev_lt (D := D.reverse) (by simpa using hB)
        rw [List.length_reverse] at this
        exact bl_le.mpr this
      walk_at "vg"
      rw [e8]
      walk_at "vg"
      rw [if_pos rfl, shl_nat, lev_eq] at *
      generalize hM : lev D.reverse = M at *
      walk_at "vg"
      rw [shl_nat, bitXor_nat]
      have hx : bl (M * 2 ^ n ^^^ b * 2 ^ (8 * D.length)) ≤ 2 ^ 26 := bl_xor_le (bl_shift_le (by omega)) (bl_shift_le (by omega))
      refine ⟨hℓ, ?_⟩
      rw [show spT L3 31 = spShare from rfl]
      refine ⟨⟨by omega, by omega, ?_, ?_⟩, ?_⟩
      · rw [Int.toNat_natCast]; exact hx
      · rw [Int.toNat_natCast]; omega
      · rw [Int.toNat_natCast, Int.toNat_natCast, ← hM]
        walk_at "vg"
        exact h
    | true =>
      have i1 : Builtin.Int.intBits 1 = 1 := rfl
      walk_at "vg"
      refine ⟨hℓ, ?_⟩
      rw [show spT L3 36 = spTurned from rfl]
      refine ⟨⟨by omega, by omega, by omega, by rw [Int.toNat_natCast]; omega⟩, ?_⟩
      rw [Int.toNat_natCast, Int.toNat_natCast]
      have hpn : bl (prev n P) ≤ n := bl_le.mpr (prev_lt _ _)
      have hL : bl (lev D) ≤ 8 * D.length := bl_le.mpr (lev_lt hB)
      walk_at "vg"
      have eo : Builtin.bitOr (((prev n P : Nat) : Int) * 2 ^ (1 : Int).toNat) 1 = ((prev (n + 1) P : Nat) : Int) := by
        rw [← other_eq hP, prev_mod, one_nat, shl_nat, Nat.pow_one, bitOr_nat]
      rw [e8, eo, if_neg (by decide), bitXor_nat, lev_eq]
      have ho := bl_le.mpr (prev_lt (n + 1) P)
      refine ⟨by rw [rng_len]; simp only [lim]; omega, ?_⟩
      refine for_ok (fun i σ => ∃ z, σ = ⟨[.bytes D, .int b, .int P, .int n, .bool true, .int ((8 * D.length : Nat) : Int), .int (prev (n + 1) P : Nat), .int (biter (prev (n + 1) P) i (lev D ^^^ b) : Nat), z], objs⟩) ⟨_, rfl⟩ (fun _ σ _ => rng_small (by omega)) ?_ ?_
      · rintro i x σ R hx ⟨z, rfl⟩ hnext _ _ _
        rw [biter_succ] at hnext
        generalize biter (prev (n + 1) P) i (lev D ^^^ b) = u at *
        have hodd : Builtin.bitAnd (u : Int) 1 = ((u % 2 : Nat) : Int) := by rw [bitAnd_m1]; rfl
        walk_at "vg"
        refine drec (fun hc => ?_) (fun hc => ?_)
        · have hc' : u % 2 = 1 := by
            rw [hodd] at hc
            have : ¬ u % 2 = 0 := by
              intro e; rw [e] at hc; revert hc; decide
            omega
          walk_at "vg"
          refine hnext _ ⟨x, ?_⟩
          rw [bitXor_nat, one_nat, shr_nat]
          unfold bstep
          rw [if_pos hc']
        · have hc' : ¬ u % 2 = 1 := by
            rw [hodd] at hc
            intro e; rw [e] at hc; revert hc; decide
          walk_at "vg"
          refine hnext _ ⟨x, ?_⟩
          rw [one_nat, shr_nat]
          unfold bstep
          rw [if_neg hc']
      · rintro σ ⟨z, rfl⟩
        rw [rng_len]
        exact h
  · exact h.elim
end
end Vc
end
section
open PySem PySem.W PyProof.Rows PySem.Calls
set_option autoImplicit false
set_option maxRecDepth 100000
namespace Vc
local macro_rules | `(tactic| walk_at "vs") => `(tactic| first | exact True.intro | exact rfl | omega | (simp only [intBits_nat]; omega) | (simp only [lim, List.length]; omega) | exact IntMulOk.of_left (by decide) | exact Nat.le_of_ble_eq_true rfl)
local macro_rules | `(tactic| walk_at "vg") => `(tactic| ((repeat ((conv => whnf); (try dsimp only [List.set, setvs]); refine And.intro (by walk_at "vs") ?_)); (conv => whnf); (try dsimp only [List.set, setvs])))

theorem peucl_bl (M : Nat) (x y u w : Nat) : bl u + bl y ≤ M → bl w + bl x ≤ M → bl (peucl x y u w).2 ≤ M := by
  induction x, y, u, w using peucl.induct with
  | case1 a u w => intro h1 _; unfold peucl; rw [dif_pos rfl]; show bl u ≤ M; omega
  | case2 a b u w hb h ih => intro h1 h2; unfold peucl; rw [dif_neg hb, dif_pos h]; exact ih h2 h1
  | case3 a b u w hb h ih =>
    intro h1 h2
    unfold peucl
    rw [dif_neg hb, dif_neg h]
    refine ih ?_ ?_
    · have : bl (u ^^^ w * 2 ^ (bl a - bl b)) ≤ M - bl b := bl_xor_le (by omega) (bl_shift_le (by omega))
      omega
    · have ha : a ≠ 0 := by rintro rfl; rw [bl_zero] at h; have := bl_pos.mpr hb; omega
      have := bl_xor_lt (a := a) (b := b * 2 ^ (bl a - bl b)) (by rw [bl_shift hb]; omega) ha
      omega
theorem ctimes_bl {a b m : Nat} (h : bl a + bl b ≤ m) : bl (ctimes a b) ≤ m := by
  by_cases h1 : a = 0
  · rw [h1, zero_ctimes, bl_zero]; omega
  by_cases h2 : b = 0
  · rw [h2, ctimes_zero, bl_zero]; omega
  have := (ctimes_ne h1 h2).2
  omega
theorem ev_bl {v k : Nat} (h : bl v ≤ 2 * k) : bl (ev v) ≤ k := bl_le.mpr (ev_lt (bl_le.mp h))
theorem half_bl {v m : Nat} (h : bl v ≤ m) : bl (v / 2) ≤ m := bl_le.mpr (Nat.lt_of_le_of_lt (Nat.div_le_self _ _) (bl_le.mp h))
/-- the sizes of a halving -/
structure HalfOk (M : Nat) : Prop where
  E0 : ev M ≠ 0
  T0 : hT M ≠ 0
  k0 : hk M ≠ 0
  mul : M = ctimes (hk M) (hT M)
  odd : hk M % 2 = 1
  bE : bl (ev M) ≤ 30
  bO : bl (ev (M / 2)) ≤ 30
  bT : bl (hT M) ≤ bl M
  bk : bl (hk M) ≤ bl M
  bb : bl (hb M) ≤ 31
  bx : bl (hT M ^^^ ctimes (hb M) (ev (M / 2))) ≤ 61
  ba : bl (ha M) ≤ 62
  bw : bl (hw M) ≤ 100
  roots : ∀ r v, prest (sq r ^^^ v) M = 0 ↔ prest (ev (v / 2)) (hT M) = 0 ∧ prest (r ^^^ ev v ^^^ ctimes (hw M) (pshare (ev (v / 2)) (hT M))) (hk M) = 0
theorem halfOk {M : Nat} (hM : M % 2 = 1) (hb' : bl M ≤ 60) : HalfOk M := by
  obtain ⟨h1, h2, h3, h4, h5, h6⟩ := halve (M := M) (T := hT M) (b := hb M) (a := ha M) (w := hw M) (k := hk M) hM rfl rfl rfl rfl rfl rfl
  have hs := (ctimes_ne h3 h2).2
  rw [← h4] at hs
  have hk1 := bl_pos.mpr h3
  have hT1 := bl_pos.mpr h2
  have bE : bl (ev M) ≤ 30 := ev_bl (by omega)
  have bO : bl (ev (M / 2)) ≤ 30 := ev_bl (half_bl (by omega))
  have bb : bl (hb M) ≤ 31 := peucl_bl 31 _ _ 1 0 (by rw [bl_one]; omega) (by rw [bl_zero]; omega)
  have bx : bl (hT M ^^^ ctimes (hb M) (ev (M / 2))) ≤ 61 := bl_xor_le (by omega) (ctimes_bl (by omega))
  have ba : bl (ha M) ≤ 62 := Nat.le_trans (pshare_bl h1 _) (by omega)
  refine ⟨h1, h2, h3, h4, h5, bE, bO, by omega, by omega, bb, bx, ba, ?_, h6⟩
  refine bl_xor_le (ctimes_bl (by omega)) ?_
  have : bl (ctimes (ev (M / 2)) (ha M)) ≤ 92 := ctimes_bl (by omega)
  have e := bl_shift_le (p := ctimes (ev (M / 2)) (ha M)) (k := 1) (m := 100) (by omega)
  rw [Nat.mul_comm]
  exact e
section
variable {ℓ : Nat} {args : List SV} {objs : List AO} {K : SV → List AO → Prop}
theorem vl_halved (hℓ : 1 ≤ ℓ) (h : spHalved args objs K) : ∃ v m, args = [.int v, m] ∧ wpSs (cT L3 ℓ) x_law_halved ⟨vars0 args 8, objs⟩ fun fl σ => K (retV fl) σ.objs := by
  unfold spHalved at h
  split at h
  · rename_i v m
    obtain ⟨⟨h1, h2, h3, rfl⟩, h⟩ := h
    obtain ⟨M, rfl⟩ := Int.eq_ofNat_of_zero_le h1
    rw [Int.toNat_natCast] at h h2 h3
    refine ⟨_, _, rfl, ?_⟩
    obtain ⟨E0, T0, k0, mul, odd, bE, bO, bT, bk, bb, bx, ba, bw, -⟩ := halfOk h2 h3
    have hMl : M < 2 ^ 64 := Nat.lt_of_lt_of_le (bl_le.mp (Nat.le_refl _)) (Nat.pow_le_pow_right (by decide) (by omega))
    have hM2 : M / 2 < 2 ^ 64 := by omega
    have sh1 : (M : Int).fdiv (2 ^ (1 : Int).toNat) = ((M / 2 : Nat) : Int) := by rw [one_nat, shr_nat, Nat.pow_one]
    have eT : (peucl (ev (M / 2)) (ev M) 1 0).1 = hT M := rfl
    have eb : (peucl (ev (M / 2)) (ev M) 1 0).2 = hb M := rfl
    have ea : pshare (hT M ^^^ ctimes (hb M) (ev (M / 2))) (ev M) = ha M := rfl
    have ew : Builtin.bitXor ((ctimes (ev M) (hb M) : Nat) : Int) (((ctimes (ev (M / 2)) (ha M) : Nat) : Int) * 2 ^ (1 : Int).toNat) = ((hw M : Nat) : Int) := by
      rw [one_nat, shl_nat, bitXor_nat, Nat.pow_one, Nat.mul_comm (ctimes (ev (M / 2)) (ha M)) 2]; rfl
    have ek : pshare M (hT M) = hk M := rfl
    have b1 : bl (ctimes (ev (M / 2)) (ha M)) ≤ 92 := ctimes_bl (by omega)
    walk_at "vg"
    refine ⟨hℓ, ?_⟩
    rw [show spT L3 30 = spEvens from rfl]
    refine ⟨⟨by omega, by rw [Int.toNat_natCast]; exact hMl, rfl⟩, ?_⟩
    rw [Int.toNat_natCast]
    walk_at "vg"
    rw [sh1]
    refine ⟨hℓ, ?_⟩
    rw [show spT L3 30 = spEvens from rfl]
    refine ⟨⟨by omega, by rw [Int.toNat_natCast]; exact hM2, rfl⟩, ?_⟩
    rw [Int.toNat_natCast]
    walk_at "vg"
    refine ⟨hℓ, ?_⟩
    rw [show spT L3 33 = spEuclid from rfl]
    refine ⟨⟨by omega, by omega, by rw [Int.toNat_natCast]; omega, by rw [Int.toNat_natCast]; omega⟩, ?_⟩
    rw [Int.toNat_natCast, Int.toNat_natCast, eT, eb]
    generalize hb M = b at *
    generalize hT M = T at *
    generalize ev (M / 2) = O at *
    generalize ev M = E at *
    have hEp : (0 : Int) < (E : Int) := by omega
    walk_at "vg"
    refine ⟨hℓ, ?_⟩
    rw [show spT L3 32 = spTimes from rfl]
    refine ⟨⟨by omega, by omega, by rw [Int.toNat_natCast, Int.toNat_natCast]; omega⟩, ?_⟩
    rw [Int.toNat_natCast, Int.toNat_natCast]
    walk_at "vg"
    rw [bitXor_nat]
    refine ⟨hℓ, ?_⟩
    rw [show spT L3 31 = spShare from rfl]
    refine ⟨⟨by omega, by omega, by rw [Int.toNat_natCast]; omega, by rw [Int.toNat_natCast]; omega⟩, ?_⟩
    rw [Int.toNat_natCast, Int.toNat_natCast, ea]
    walk_at "vg"
    refine ⟨hℓ, ?_⟩
    rw [show spT L3 32 = spTimes from rfl]
    refine ⟨⟨by omega, by omega, by rw [Int.toNat_natCast, Int.toNat_natCast]; omega⟩, ?_⟩
    rw [Int.toNat_natCast, Int.toNat_natCast]
    walk_at "vg"
    refine ⟨hℓ, ?_⟩
    rw [show spT L3 32 = spTimes from rfl]
    refine ⟨⟨by omega, by omega, by rw [Int.toNat_natCast, Int.toNat_natCast]; omega⟩, ?_⟩
    rw [Int.toNat_natCast, Int.toNat_natCast]
    walk_at "vg"
    rw [ew]
    refine ⟨hℓ, ?_⟩
    rw [show spT L3 31 = spShare from rfl]
    refine ⟨⟨by omega, by omega, by rw [Int.toNat_natCast]; omega, by rw [Int.toNat_natCast]; omega⟩, ?_⟩
    rw [Int.toNat_natCast, Int.toNat_natCast, ek]
    walk_at "vg"
    exact h
  · exact h.elim
theorem spellL_len (p : Nat) : ∀ (l : List Nat) (i : Nat), (spellL p i l).length = l.length
  | [], _ => rfl
  | c :: r, i => by simp [spellL, spellL_len p r]
theorem spellL_get (p : Nat) : ∀ (l : List Nat) (i j : Nat), (spellL p i l)[j]? = (l[j]?).map fun c => if p.testBit (i + j) then c ^^^ 32 else c
  | [], _, _ => by simp [spellL]
  | c :: r, i, 0 => by simp [spellL]
  | c :: r, i, j + 1 => by
    simp only [spellL, List.getElem?_cons_succ]
    rw [spellL_get p r (i + 1) j, show i + 1 + j = i + (j + 1) by omega]
theorem spellL_lt (p : Nat) : ∀ (l : List Nat) (i : Nat), (∀ c ∈ l, c < 256) → ∀ c ∈ spellL p i l, c < 256
  | [], _, _ => by simp [spellL]
  | c :: r, i, h => by
    intro x hx
    rw [spellL] at hx
    rcases List.mem_cons.mp hx with rfl | hx
    · have := h c (by simp)
      split
      · exact Nat.xor_lt_two_pow (n := 8) this (by decide)
      · exact this
    · exact spellL_lt p r (i + 1) (fun c hc => h c (by simp [hc])) x hx
theorem pre_rev {objs : List AO} {p : Nat} {l : List SV} (h : objs[p]? = some (.list l)) : bmPre .reverse (.ref p) objs := by
  show (match objs[p]? with | some (.list _) => True | _ => False)
  rw [h]; exact True.intro
theorem rev_ok {objs : List AO} {p : Nat} {l : List SV} {K : SV → List AO → Prop} (h : objs[p]? = some (.list l)) (hl : l.length ≤ lim) (k : K .none (objs.set p (.list l.reverse))) : bmW .reverse (.ref p) [] objs K := by
  show (match objs[p]? with | some (.list l) => l.length ≤ lim ∧ K .none (objs.set p (.list l.reverse)) | _ => False)
  rw [h]; exact ⟨hl, k⟩
theorem natsI_rev (l : List Nat) : (natsI l).reverse = natsI l.reverse := by unfold natsI; rw [List.map_reverse]
theorem bytesR_ok {c : C} {l : List Nat} {p : Nat} {objs : List AO} {K : SV → List AO → Prop} (hp : objs[p]? = some (.list (natsI l))) (h : ∀ x ∈ l, x < 256) (hl : l.length ≤ lim) (k : K (.bytes l) objs) : callW c (.ty .bytes) [.ref p] objs K := by
  show (match (lOf objs (.ref p)).bind intsOf with
      | some ns => (∀ n ∈ ns, 0 ≤ n ∧ n < 256) ∧ ns.length ≤ lim ∧ K (.bytes (ns.map Int.toNat)) objs
      | none => False)
  rw [lOf_ref hp, Option.bind_some, intsOf_nats]
  refine ⟨nats_small h, by simpa using hl, ?_⟩
  rw [nats_back]; exact k
theorem vl_spelt (h : spSpelt args objs K) : ∃ v p, args = [v, .int p] ∧ wpSs (cT L3 ℓ) x_law_spelt ⟨vars0 args 5, objs⟩ fun fl σ => K (retV fl) σ.objs := by
  unfold spSpelt at h
  split at h
  · rename_i l p
    obtain ⟨ls, ⟨rfl, h1, h2, h3, h4⟩, h⟩ := h
    obtain ⟨p, rfl⟩ := Int.eq_ofNat_of_zero_le h3
    rw [Int.toNat_natCast] at h h4
    refine ⟨_, _, rfl, ?_⟩
    have hel : (enumL 0 (natsI ls)).length = ls.length := by
      have : ∀ (l : List SV) (k : Nat), (enumL k l).length = l.length := enumL_len
      rw [this]; simp [natsI]
    have hlt := spellL_lt p ls 0 h2
    have hsl := spellL_len p ls 0
    generalize hbody : (X.ife (.bin .BitAnd (.bin .RShift (.var 1) (.var 3)) (.lit (.int 1))) (.bin .BitXor (.var 4) (.lit (.int 32))) (.var 4)) = body
    have ex : x_law_spelt = .cons (.setZ 2 true [((Str.ofString "i"), 3), ((Str.ofString "c"), 4), ((Str.ofString "pattern"), 1)] body 3 4 (.glob 107) (.cons (.var 0) .nil)) (.cons
  (.ex (.bmeth .reverse (.var 2) .nil)) (.cons
  (.ret (.call (.glob 103) (.cons (.var 2) .nil))) .nil)) := by rw [← hbody]; rfl
    rw [ex]
    conv => whnf
    refine ⟨by rw [hel]; simp only [lim]; omega, ?_⟩
    refine comp_okW (fun j acc σ => ∃ x y : SV, acc = natsI ((spellL p 0 ls).take j) ∧ σ = ⟨[.lst (natsI ls), .int p, .unb, x, y], objs⟩) ⟨.unb, .unb, rfl, rfl⟩ (fun _ _ σ _ => trivial) ?_ ?_
    · rintro j x acc σ R hxj ⟨y1, y2, rfl, rfl⟩ hnext
      rw [enumL_get] at hxj
      obtain ⟨z, hz, rfl⟩ := Option.map_eq_some_iff.mp hxj
      unfold natsI at hz
      rw [List.getElem?_map] at hz
      obtain ⟨u, hu, rfl⟩ := Option.map_eq_some_iff.mp hz
      rw [Nat.zero_add]
      have hg := spellL_get p ls 0 j
      rw [hu, Nat.zero_add, Option.map_some] at hg
      have hn : ∀ y1 y2, R (.int ((if p.testBit j then u ^^^ 32 else u : Nat) : Int)) ⟨[.lst (natsI ls), .int p, .unb, y1, y2], objs⟩ := fun y1 y2 => hnext _ _ ⟨y1, y2, by
        rw [List.take_add_one, hg]
        unfold natsI
        rw [List.map_append]; rfl, rfl⟩
      have hbit : Builtin.bitAnd ((p : Int).fdiv (2 ^ ((j : Int)).toNat)) 1 = ((p / 2 ^ j % 2 : Nat) : Int) := by
        rw [shr_nat, one_nat, bitAnd_nat, Nat.and_one_is_mod]
      have htb : p.testBit j = decide (p / 2 ^ j % 2 = 1) := Nat.testBit_eq_decide_div_mod_eq
      rw [htb] at hn
      have hq2 : p / 2 ^ j % 2 < 2 := Nat.mod_lt _ (by decide)
      rw [← hbody]
      walk_at "vg"
      rw [hbit]
      generalize p / 2 ^ j % 2 = q at *
      refine drec (fun hc => ?_) (fun hc => ?_)
      · have hq : q = 1 := by
          have : q ≠ 0 := by
            rintro rfl
            revert hc; decide
          omega
        subst hq
        walk_at "vg"
        have e32 : Builtin.bitXor (u : Int) 32 = ((u ^^^ 32 : Nat) : Int) := bitXor_nat u 32
        rw [e32]
        exact hn _ _
      · have hq : q = 0 := by
          rcases (show q = 0 ∨ q = 1 by omega) with e | e
          · exact e
          · subst e; exact (hc (by decide)).elim
        subst hq
        walk_at "vg"
        exact hn _ _
    · rintro acc σ ⟨y1, y2, rfl, rfl⟩
      rw [hel, ← hsl, List.take_length]
      have hnl : (natsI (spellL p 0 ls)).length ≤ lim := by simp only [natsI, List.length_map, hsl, lim]; omega
      refine ⟨hnl, ?_⟩
      conv => whnf
      have hg : (objs ++ [AO.list (natsI (spellL p 0 ls))])[objs.length]? = some (.list (natsI (spellL p 0 ls))) := by simp
      refine ⟨pre_rev hg, ?_⟩
      unfold wpEs
      refine rev_ok hg hnl ?_
      rw [natsI_rev]
      have hg2 : ((objs ++ [AO.list (natsI (spellL p 0 ls))]).set objs.length (.list (natsI (spelt ls p))))[objs.length]? = some (.list (natsI (spelt ls p))) := by simp
      refine ⟨trivial, ?_⟩
      have hkb : KeepsBut objs.length objs ((objs ++ [AO.list (natsI (spellL p 0 ls))]).set objs.length (.list (natsI (spelt ls p)))) := by
        refine ⟨by simp, fun k hk hne => ?_⟩
        rw [List.getElem?_set_ne (by omega), List.getElem?_append_left hk]
      have h := h _ hkb
      refine bytesR_ok (c := cT L3 ℓ) (l := spelt ls p) (p := objs.length) hg2 (fun x hx => ?_) (by simp only [spelt, List.length_reverse, hsl, lim]; omega) h
      exact hlt x (by simpa [spelt] using hx)
  · exact h.elim
end
end Vc
end
section
open PySem PySem.W PyProof.Rows PySem.Calls
set_option autoImplicit false
namespace Vc
theorem biter_inv {P : Nat} : ∀ (K v : Nat), pdvd P (ctimes (2 ^ K) (biter P K v) ^^^ v) ∨ P % 2 = 0
  | 0, v => by
    left
    show pdvd P (ctimes 1 v ^^^ v)
    rw [ctimes_comm, ctimes_one, Nat.xor_self]; exact pdvd_zero P
  | K + 1, v => by
    rcases Nat.mod_two_eq_zero_or_one P with q | q
    · exact .inr q
    · left
      have h1 := (biter_inv (P := P) K (bstep P v)).resolve_right (by omega)
      have h2 := pdvd_times 2 h1
      rw [ctimes_xor_right, ← ctimes_assoc, ← two_ctimes, ← two_ctimes] at h2
      have h3 : pdvd P (2 * bstep P v ^^^ v) := by
        unfold bstep
        by_cases hv : v % 2 = 1
        · rw [if_pos hv]
          have e : (v ^^^ P) % 2 = 0 := by
            have e : ¬ (v ^^^ P) % 2 = 1 := by rw [Nat.xor_mod_two_eq_one]; simp [hv, q]
            omega
          rw [show 2 * ((v ^^^ P) / 2) = v ^^^ P by omega, Nat.xor_comm v P, Nat.xor_assoc, Nat.xor_self, Nat.xor_zero]
          exact pdvd_refl P
        · rw [if_neg hv, show 2 * (v / 2) = v by omega, Nat.xor_self]
          exact pdvd_zero P
      have h4 := pdvd_xor h2 h3
      rw [show ctimes (2 * 2 ^ K) (biter P K (bstep P v)) ^^^ 2 * bstep P v ^^^ (2 * bstep P v ^^^ v) = ctimes (2 * 2 ^ K) (biter P K (bstep P v)) ^^^ v ^^^ (2 * bstep P v ^^^ 2 * bstep P v) by ac_rfl, Nat.xor_self, Nat.xor_zero, ← Nat.pow_succ'] at h4
      exact h4
theorem biter_lt {P n : Nat} (hP : P < 2 ^ (n + 1)) : ∀ (K v : Nat), v < 2 ^ n → biter P K v < 2 ^ n
  | 0, v, h => h
  | K + 1, v, h => by
    refine biter_lt hP K _ ?_
    have e : 2 ^ (n + 1) = 2 * 2 ^ n := Nat.pow_succ'
    unfold bstep
    split
    · have := Nat.xor_lt_two_pow (n := n + 1) (x := v) (y := P) (by omega) hP
      omega
    · omega
theorem unit_two {P w : Nat} (hP : P % 2 = 1) (h : pdvd P (2 * w)) : pdvd P w := by
  obtain ⟨q, e⟩ := h
  have hq : q % 2 = 0 := by
    rcases Nat.mod_two_eq_zero_or_one q with a | a
    · exact a
    · exfalso
      rw [ctimes_comm, ctimes_half, if_pos a] at e
      have : (P ^^^ 2 * ctimes P (q / 2)) % 2 = 1 := by rw [Nat.xor_mod_two_eq_one]; omega
      omega
  refine ⟨q / 2, ?_⟩
  rw [show q = 2 * (q / 2) by omega, ctimes_dbl] at e
  omega
theorem unit_pow {P w : Nat} (hP : P % 2 = 1) : ∀ K, pdvd P (ctimes (2 ^ K) w) → pdvd P w
  | 0, h => by rwa [Nat.pow_zero, ctimes_comm, ctimes_one] at h
  | K + 1, h => by
    refine unit_pow hP K (unit_two hP ?_)
    rwa [Nat.pow_succ', ctimes_dbl] at h
def up8 (p : Nat) : Nat := sq (sq (sq p))
theorem up8_bit (p i : Nat) : (up8 p).testBit i = (decide (i % 8 = 0) && p.testBit (i / 8)) := by
  unfold up8
  rw [sq_bit, sq_bit, sq_bit, show i / 2 / 2 / 2 = i / 8 by omega]
  by_cases h : i % 8 = 0
  · rw [decide_eq_true h, decide_eq_true (show i % 2 = 0 by omega), decide_eq_true (show i / 2 % 2 = 0 by omega), decide_eq_true (show i / 2 / 2 % 2 = 0 by omega)]; simp
  · rw [decide_eq_false h]
    by_cases h1 : i % 2 = 0
    · by_cases h2 : i / 2 % 2 = 0
      · rw [decide_eq_false (show ¬ i / 2 / 2 % 2 = 0 by omega)]; simp
      · rw [decide_eq_false h2]; simp
    · rw [decide_eq_false h1]; simp
theorem up8_rec (m : Nat) : up8 m = (m % 2) ^^^ up8 (m / 2) * 2 ^ 8 := by
  apply Nat.eq_of_testBit_eq
  intro i
  rw [Nat.testBit_xor, Nat.testBit_mul_two_pow, up8_bit, up8_bit]
  by_cases h : i = 0
  · subst h
    rw [Nat.testBit_zero (m % 2), Nat.mod_mod]
    simp [Nat.testBit_zero]
  · have e : (m % 2).testBit i = false := Nat.testBit_lt_two_pow (by
      have h2 : 2 ^ 1 ≤ 2 ^ i := Nat.pow_le_pow_right (by decide) (by omega)
      have := Nat.mod_lt m (show 0 < 2 by decide)
      omega)
    rw [e, Bool.false_xor]
    by_cases h8 : i % 8 = 0
    · rw [decide_eq_true h8, decide_eq_true (show 8 ≤ i by omega), decide_eq_true (show (i - 8) % 8 = 0 by omega), Nat.testBit_div_two, show (i - 8) / 8 + 1 = i / 8 by omega]; simp
    · rw [decide_eq_false h8]
      by_cases h9 : 8 ≤ i
      · rw [decide_eq_false (show ¬ (i - 8) % 8 = 0 by omega)]; simp
      · simp [h9]
/-- where a capital's bit is sent -/
def bt (back : Bool) : Nat := if back then 2 else 5
theorem msg_one {back : Bool} {c b : Nat} (hb : b < 2) : msg back [c ^^^ 32 * b] = msg back [c] ^^^ b * 2 ^ bt back := by
  cases back with
  | false =>
    show lev [c ^^^ 32 * b] = lev [c] ^^^ b * 2 ^ 5
    simp [lev, Nat.mul_comm]
  | true =>
    show prev (8 * 1) (lev [c ^^^ 32 * b]) = prev (8 * 1) (lev [c]) ^^^ b * 2 ^ 2
    have e : prev 8 (32 * b) = b * 2 ^ 2 := by
      rcases (show b = 0 ∨ b = 1 by omega) with rfl | rfl
      · exact prev_zero 8
      · decide +kernel
    simp only [lev, Nat.mul_zero, Nat.add_zero, Nat.mul_one]
    rw [prev_xor, e]
theorem msg_spell {back : Bool} (p : Nat) : ∀ (l : List Nat) (i : Nat), (∀ c ∈ l, c < 256) → msg back (spellL p i l).reverse = msg back l.reverse ^^^ up8 (p / 2 ^ i % 2 ^ l.length) * 2 ^ bt back
  | [], i, _ => by
    have : up8 (p / 2 ^ i % 2 ^ ([] : List Nat).length) = 0 := by
      rw [List.length_nil, Nat.pow_zero, Nat.mod_one]
      decide +kernel
    rw [this, Nat.zero_mul, Nat.xor_zero]; rfl
  | c :: r, i, h => by
    have hr : ∀ x ∈ r, x < 256 := fun x hx => h x (by simp [hx])
    have hc := h c (by simp)
    have ih := msg_spell (back := back) p r (i + 1) hr
    have hb : p / 2 ^ i % 2 < 2 := Nat.mod_lt _ (by decide)
    have e0 : (if p.testBit i then c ^^^ 32 else c) = c ^^^ 32 * (p / 2 ^ i % 2) := by
      rw [Nat.testBit_eq_decide_div_mod_eq]
      rcases (show p / 2 ^ i % 2 = 0 ∨ p / 2 ^ i % 2 = 1 by omega) with q | q <;> rw [q] <;> simp
    have e1 : p / 2 ^ i % 2 ^ (r.length + 1) % 2 = p / 2 ^ i % 2 := Nat.mod_mod_of_dvd _ ⟨2 ^ r.length, Nat.pow_succ'⟩
    have e2 : p / 2 ^ i % 2 ^ (r.length + 1) / 2 = p / 2 ^ (i + 1) % 2 ^ r.length := by
      apply Nat.eq_of_testBit_eq
      intro j
      rw [Nat.testBit_div_two, Nat.testBit_mod_two_pow, Nat.testBit_mod_two_pow, Nat.testBit_div_two_pow, Nat.testBit_div_two_pow, show j + 1 + i = j + (i + 1) by omega]
      by_cases hj : j < r.length <;> simp [hj]
    rw [spellL, e0, List.reverse_cons, List.reverse_cons, msg_append (by intro x hx; exact spellL_lt p r (i + 1) hr x (by simpa using hx)) (by
      intro x hx
      rw [List.mem_singleton] at hx
      subst hx
      refine Nat.xor_lt_two_pow (n := 8) hc ?_
      have : p / 2 ^ i % 2 < 2 := hb
      omega), msg_append (by intro x hx; exact hr x (by simpa using hx)) (by simpa using hc), ih, msg_one hb, show (c :: r).length = r.length + 1 from rfl, up8_rec (p / 2 ^ i % 2 ^ (r.length + 1)), e1, e2]
    simp only [List.length_singleton, Nat.mul_one]
    rw [xor_shl, xor_shl, show up8 (p / 2 ^ (i + 1) % 2 ^ r.length) * 2 ^ bt back * 2 ^ 8 = up8 (p / 2 ^ (i + 1) % 2 ^ r.length) * 2 ^ 8 * 2 ^ bt back by rw [Nat.mul_assoc, Nat.mul_assoc, Nat.mul_comm (2 ^ bt back)]]
    ac_rfl
theorem msg_spelt {back : Bool} {ls : List Nat} {p : Nat} (h : ∀ c ∈ ls, c < 256) (hp : p < 2 ^ ls.length) : msg back (spelt ls p) = msg back ls.reverse ^^^ up8 p * 2 ^ bt back := by
  unfold spelt
  rw [msg_spell p ls 0 h, Nat.pow_zero, Nat.div_one, Nat.mod_eq_of_lt hp]
theorem spelt_lt {ls : List Nat} {p : Nat} (h : ∀ c ∈ ls, c < 256) : ∀ x ∈ spelt ls p, x < 256 := fun x hx => spellL_lt p ls 0 h x (by simpa [spelt] using hx)
theorem spelt_len (ls : List Nat) (p : Nat) : (spelt ls p).length = ls.length := by simp [spelt, spellL_len]
/-- which patterns give the wished sum -/
theorem text_eq3 {g : Cfg} {ls B : List Nat} {s1 wish p : Nat} (ok : g.Ok) (hPo : g.P % 2 = 1) (hl : ∀ c ∈ ls, c < 256) (hB : ∀ x ∈ B, x < 256) (hs : s1 < 2 ^ g.n) (hw : wish < 2 ^ g.n) (hp : p < 2 ^ ls.length) :
    g.step (spelt ls p ++ B) s1 = wish ↔ prest (up8 p ^^^ biter g.P (g.n + 8 * B.length + bt g.back) (phi g.back g.n (wish ^^^ g.step B (g.step (spelt ls 0) s1)))) g.P = 0 := by
  have hP0 : g.P ≠ 0 := by omega
  have hmem : ∀ q, ∀ x ∈ spelt ls q ++ B, x < 256 := fun q x hx => (List.mem_append.mp hx).elim (spelt_lt hl x) (hB x)
  have h0 : g.step B (g.step (spelt ls 0) s1) = g.step (spelt ls 0 ++ B) s1 := (step_append ok (spelt_lt hl) hB hs).symm
  rw [h0]
  generalize hK : g.n + 8 * B.length + bt g.back = K
  have key : phi g.back g.n (g.step (spelt ls p ++ B) s1) ^^^ phi g.back g.n (g.step (spelt ls 0 ++ B) s1) = prest (ctimes (2 ^ K) (up8 p)) g.P := by
    rw [phi_step ok (hmem p) hs, phi_step ok (hmem 0) hs, msg_append (spelt_lt hl) hB, msg_append (spelt_lt hl) hB, msg_spelt hl hp, msg_spelt hl (Nat.two_pow_pos _), List.length_append, List.length_append, spelt_len, spelt_len]
    have e0 : up8 0 = 0 := by decide +kernel
    rw [e0, Nat.zero_mul, Nat.xor_zero]
    generalize phi g.back g.n (g.xor ^^^ s1) * 2 ^ (8 * (ls.length + B.length)) = z
    have e1 : (((msg g.back ls.reverse ^^^ up8 p * 2 ^ bt g.back) * 2 ^ (8 * B.length) ^^^ msg g.back B) * 2 ^ g.n ^^^ z) = ((msg g.back ls.reverse * 2 ^ (8 * B.length) ^^^ msg g.back B) * 2 ^ g.n ^^^ z) ^^^ ctimes (2 ^ K) (up8 p) := by
      rw [← mul_pow_eq, ← hK, Nat.pow_add, Nat.pow_add, xor_shl, xor_shl, xor_shl, xor_shl]
      rw [show up8 p * (2 ^ g.n * 2 ^ (8 * B.length) * 2 ^ bt g.back) = up8 p * 2 ^ bt g.back * 2 ^ (8 * B.length) * 2 ^ g.n by ac_rfl]
      ac_rfl
    rw [e1, prest_xor hP0]
    generalize prest ((msg g.back ls.reverse * 2 ^ (8 * B.length) ^^^ msg g.back B) * 2 ^ g.n ^^^ z) g.P = y
    rw [show y ^^^ prest (ctimes (2 ^ K) (up8 p)) g.P ^^^ phi g.back g.n g.xor ^^^ (y ^^^ phi g.back g.n g.xor) = prest (ctimes (2 ^ K) (up8 p)) g.P ^^^ (y ^^^ y) ^^^ (phi g.back g.n g.xor ^^^ phi g.back g.n g.xor) by ac_rfl, Nat.xor_self, Nat.xor_self, Nat.xor_zero, Nat.xor_zero]
  have hpl := step_lt' ok (hmem 0) hs
  have hsp := step_lt' ok (hmem p) hs
  generalize g.step (spelt ls 0 ++ B) s1 = pl at *
  generalize g.step (spelt ls p ++ B) s1 = sp at *
  have hv0 := phi_lt (back := g.back) (Nat.xor_lt_two_pow hw hpl)
  have hd : wish ^^^ pl = wish ^^^ pl := rfl
  rw [← phi_xor] at key
  have hbi := (biter_inv (P := g.P) K (phi g.back g.n (wish ^^^ pl))).resolve_right (by omega)
  have hPb : bl g.P = g.n + 1 := ok.P
  rw [← pdvd_iff hP0]
  constructor
  · rintro rfl
    refine unit_pow hPo K ?_
    rw [ctimes_xor_right]
    have h1 : pdvd g.P (ctimes (2 ^ K) (up8 p) ^^^ phi g.back g.n (sp ^^^ pl)) := by
      rw [key]
      refine ⟨pshare (ctimes (2 ^ K) (up8 p)) g.P, ?_⟩
      conv => lhs; arg 1; rw [pdiv hP0 (ctimes (2 ^ K) (up8 p))]
      rw [Nat.xor_assoc, Nat.xor_self, Nat.xor_zero]
    have := pdvd_xor h1 hbi
    generalize ctimes (2 ^ K) (biter g.P K (phi g.back g.n (sp ^^^ pl))) = r at *
    rw [show ctimes (2 ^ K) (up8 p) ^^^ phi g.back g.n (sp ^^^ pl) ^^^ (r ^^^ phi g.back g.n (sp ^^^ pl)) = ctimes (2 ^ K) (up8 p) ^^^ r ^^^ (phi g.back g.n (sp ^^^ pl) ^^^ phi g.back g.n (sp ^^^ pl)) by ac_rfl, Nat.xor_self, Nat.xor_zero] at this
    exact this
  · intro h
    have h1 := pdvd_times (2 ^ K) h
    rw [ctimes_xor_right] at h1
    have h2 := pdvd_xor h1 hbi
    generalize hr : ctimes (2 ^ K) (biter g.P K (phi g.back g.n (wish ^^^ pl))) = r at *
    rw [show ctimes (2 ^ K) (up8 p) ^^^ r ^^^ (r ^^^ phi g.back g.n (wish ^^^ pl)) = ctimes (2 ^ K) (up8 p) ^^^ phi g.back g.n (wish ^^^ pl) ^^^ (r ^^^ r) by ac_rfl, Nat.xor_self, Nat.xor_zero] at h2
    have h3 := (pdvd_iff hP0 _).mp h2
    rw [prest_xor hP0, ← key, prest_self hP0 (v := phi g.back g.n (wish ^^^ pl)) (by rw [hPb]; have := bl_le.mpr hv0; omega)] at h3
    have h4 := xor_eq_zero h3
    have hx : sp ^^^ pl < 2 ^ g.n := Nat.xor_lt_two_pow hsp hpl
    have h5 : sp ^^^ pl = wish ^^^ pl := by
      have := congrArg (phi g.back g.n) h4
      rwa [phi_phi hx, phi_phi (Nat.xor_lt_two_pow hw hpl)] at this
    have := congrArg (fun t => t ^^^ pl) h5
    simpa [Nat.xor_assoc] using this
end Vc
end
section
open PySem PySem.W PyProof.Rows PySem.Calls
set_option autoImplicit false
set_option maxRecDepth 100000
namespace Vc
local macro_rules | `(tactic| walk_at "vs") => `(tactic| first | exact True.intro | exact rfl | omega | (simp only [intBits_nat]; omega) | (simp only [lim, List.length]; omega) | exact IntMulOk.of_left (by decide) | exact Nat.le_of_ble_eq_true rfl)
local macro_rules | `(tactic| walk_at "vg") => `(tactic| ((repeat ((conv => whnf); (try dsimp only [List.set, setvs]); refine And.intro (by walk_at "vs") ?_)); (conv => whnf); (try dsimp only [List.set, setvs])))

def drawL (d : Nat → Int) : List SV := [.int (d 0), .int (d 1), .int (d 2), .int (d 3), .int (d 4), .int (d 5), .int (d 6), .int (d 7), .int (d 8), .int (d 9), .int (d 10), .int (d 11), .int (d 12), .int (d 13), .int (d 14), .int (d 15), .int (d 16)]
def vA (s0 : SV) (d : Nat → Int) (n : Nat) (x5 x6 x7 : SV) (P : Nat) (x9 : SV) (back : Bool) (c : Nat) (A B : List Nat) (many : Nat) (ls : List Nat) (o s1 : Nat) (x18 x19 x20 x21 x22 x23 x24 x25 x26 x27 x28 x29 x30 x31 x32 x33 x34 : SV) : List SV :=
  [s0, masksV, .lst (drawL d), .int n, .int (2 ^ n - 1), x5, x6, x7, .int P, x9, .bool back, .ref c, .bytes A, .bytes B, .int many, .lst (natsI ls), .ref o, .int s1, x18, x19, x20, x21, x22, x23, x24, x25, x26, x27, x28, x29, x30, x31, x32, x33, x34]
structure H3 (d : Nat → Int) (n P : Nat) (back : Bool) (c : Nat) (A B : List Nat) (many : Nat) (ls : List Nat) (o s1 : Nat) (objs : List AO) (g : Cfg) : Prop where
  ok : g.Ok
  gn : g.n = n
  gP : g.P = P
  gb : g.back = back
  gi : g.init = lowN n (d 5)
  gx : g.xor = lowN n (d 6)
  odd : P % 2 = 1
  cr : IsCrc objs c g g.init
  one : IsCrc objs o g s1
  s1l : s1 < 2 ^ n
  hA : A.length ≤ 10 ∧ ∀ x ∈ A, x < 256
  hB : B.length ≤ 10 ∧ ∀ x ∈ B, x < 256
  lsl : ls.length = many
  ls8 : ∀ x ∈ ls, x < 256
  m1 : n ≤ many
  m2 : many ≤ n + 1
  A1 : g.step A g.init = s1
theorem H3.keep {d : Nat → Int} {n P : Nat} {back : Bool} {c : Nat} {A B : List Nat} {many : Nat} {ls : List Nat} {o s1 : Nat} {objs objs' : List AO} {g : Cfg} {i : Nat} (h : H3 d n P back c A B many ls o s1 objs g) (k : KeepsBut i objs objs') (hc : c ≠ i) (ho : o ≠ i) : H3 d n P back c A B many ls o s1 objs' g :=
  { h with cr := h.cr.keep k hc, one := h.one.keep k ho }
section
variable {s0 : SV} {d : Nat → Int} {n : Nat} {x5 x6 x7 : SV} {P : Nat} {x9 : SV} {back : Bool} {c : Nat} {A B : List Nat} {many : Nat} {ls : List Nat} {o s1 : Nat} {x18 x19 x20 x21 x22 x23 x24 x25 x26 x27 x28 x29 x30 x31 x32 x33 x34 : SV} {objs : List AO} {g : Cfg}
theorem seg38 (h : H3 d n P back c A B many ls o s1 objs g) :
    wpSs (cT L3 8) (dropS 38 x_law) ⟨vA s0 d n x5 x6 x7 P x9 back c A B many ls o s1 x18 x19 x20 x21 x22 x23 x24 x25 x26 x27 x28 x29 x30 x31 x32 x33 x34, objs⟩ SaysT := by
  obtain ⟨f1, e1, -, -, -, -, -, -, -, -, e17⟩ := id h.one
  obtain ⟨f2, e2, -, -, -, -, -, -, -, -, e27⟩ := id h.cr
  conv => whnf
  rw [e1]
  conv => whnf
  rw [e17]
  walk_at "vg"
  rw [show decide ((s1 : Int) = (s1 : Int)) = true from decide_eq_true rfl]
  conv => whnf
  rw [e2]
  conv => whnf
  rw [e27]
  walk_at "vg"
  rw [and_low, h.gi]
  show SV.bool (decide _) = _
  rw [decide_eq_true rfl]
theorem seg35 {w pt : Nat} {hb : Bool} (h : H3 d n P back c A B many ls o s1 objs g) (hw : w < 2 ^ n) (hp : pt < 2 ^ many) (heq : g.step (spelt ls pt ++ B) s1 = w ↔ hb = true) :
    wpSs (cT L3 8) (dropS 35 x_law) ⟨vA s0 d n x5 x6 x7 P x9 back c A B many ls o s1 x18 x19 (.int w) x21 x22 x23 x24 x25 x26 x27 x28 (.int pt) (.bool hb) x31 x32 x33 x34, objs⟩ SaysT := by
  have e : dropS 35 x_law = .cons (.set 18 (.meth 1 (.var 16) .nil)) (.cons
  (.ex (.meth 2 (.var 18) (.cons (.bin .Add (.call (.glob 35) (.cons (.var 15) (.cons (.var 29) .nil))) (.var 13)) .nil))) (.cons
  (.ite (.bool .Or (.cons (.cmp (.cmp (.meth 3 (.var 18) .nil) .Eq (.bmeth .toBytes (.var 20) (.cons (.bin .FloorDiv (.var 3) (.lit (.int 8))) (.cons (.lit (.str (Str.ofString "big"))) .nil)))) .NotEq (.var 30)) (.cons (.cmp (.cmp (.attr (.var 18) 7) .Eq (.var 20)) .NotEq (.var 30)) .nil))) (.cons
  (.ret (.lit (.bool false))) .nil) .nil) (dropS 38 x_law))) := rfl
  rw [e]
  have tl := @seg38 s0 d n x5 x6 x7 P x9 back c A B many ls o s1
  generalize dropS 38 x_law = r at tl
  have hn : n ≤ 32 ∧ 8 ≤ n ∧ 8 * (n / 8) = n := by have := h.ok.n; rw [h.gn] at this; omega
  have hm1 := h.m1
  have hm2 := h.m2
  have hll := h.lsl
  have hsl : (spelt ls pt).length = ls.length := spelt_len ls pt
  have hBl := h.hB.1
  have hpb := bl_le.mpr hp
  have hoB : Octs (spelt ls pt ++ B) := ⟨by rw [List.length_append]; omega, fun x hx => (List.mem_append.mp hx).elim (spelt_lt h.ls8 x) (h.hB.2 x)⟩
  have hv : g.step (spelt ls pt ++ B) s1 < 2 ^ n := by
    rw [← h.gn]
    exact step_lt' h.ok hoB.2 (by rw [h.gn]; exact h.s1l)
  have hlo := h.one.lt
  have hlc := h.cr.lt
  obtain ⟨f1, e1, -⟩ := id h.one
  conv => whnf
  rw [e1]
  walk_at "vg"
  refine ⟨g, s1, h.ok, h.one, fun objs1 k1 c1 => ?_⟩
  change KeepsBut objs.length objs objs1 at k1
  change IsCrc objs1 objs.length g s1 at c1
  have h1 := h.keep k1 (by omega) (by omega)
  generalize hi : objs.length = i at *
  have hli := c1.lt
  obtain ⟨f2, e2, -⟩ := id c1
  walk_at "vg"
  rw [e2]
  walk_at "vg"
  refine ⟨ls, ⟨rfl, by omega, h.ls8, by omega, by rw [Int.toNat_natCast]; omega⟩, fun objs2 k2 => ?_⟩
  rw [Int.toNat_natCast]
  change KeepsBut objs1.length objs1 objs2 at k2
  have h2 := h1.keep k2 (by have := h1.cr.lt; omega) (by have := h1.one.lt; omega)
  have c2 := c1.keep k2 (by omega)
  generalize hD : spelt ls pt = D at *
  have hDl : D.length + B.length ≤ lim := by simp only [lim]; omega
  conv => whnf
  refine ⟨hDl, ?_⟩
  walk_at "vg"
  refine ⟨g, s1, h.ok, by rw [h.gn]; exact h.s1l, hoB, c2, fun objs3 k3 c3 => ?_⟩
  have h3 := h2.keep k3 (by omega) (by omega)
  refine ⟨True.intro, ?_⟩
  generalize g.step (D ++ B) s1 = y at *
  obtain ⟨f3, e3, -⟩ := id c3
  conv => whnf
  rw [e3]
  walk_at "vg"
  refine ⟨g, y, by rw [h.gn]; omega, c3, fun objs4 k4 => ?_⟩
  change KeepsBut objs3.length objs3 objs4 at k4
  have h4 := h3.keep k4 (by have := h3.cr.lt; omega) (by have := h3.one.lt; omega)
  have c4 := c3.keep k4 (by have := c3.lt; omega)
  obtain ⟨f4, e4, -, -, -, -, -, -, -, -, e47⟩ := id c4
  have h256 : 256 ^ (n / 8) = 2 ^ n := by rw [pow256, hn.2.2]
  have hw' : w < 256 ^ (n / 8) := by rw [h256]; exact hw
  have hy' : y < 256 ^ (n / 8) := by rw [h256]; exact hv
  have e8 : (n : Int).fdiv 8 = ((n / 8 : Nat) : Int) := by
    rw [Int.fdiv_eq_ediv_of_nonneg _ (by omega)]; rfl
  have hb1 : decide ((toBytesL (n / 8) y).reverse = (toBytesL (n / 8) w).reverse) = hb := by
    rw [Bool.eq_iff_iff, decide_eq_true_eq, ← heq]
    exact ⟨fun e => toBytes_inj hy' hw' (List.reverse_inj.mp e), fun e => by rw [e]⟩
  have hb2 : decide ((y : Int) = (w : Int)) = hb := by
    rw [Bool.eq_iff_iff, decide_eq_true_eq, ← heq]
    omega
  have tl2 := @tl (.ref i) x19 (.int w) x21 x22 x23 x24 x25 x26 x27 x28 (.int pt) (.bool hb) x31 x32 x33 x34 objs4 g h4
  clear tl heq
  walk_at "vg"
  rw [e8]
  refine ⟨by rw [Int.toNat_natCast]; exact_mod_cast hw', ?_⟩
  rw [show isSide (Str.ofString "big") = some true from rfl]
  dsimp only
  rw [if_pos rfl, Int.toNat_natCast, Int.toNat_natCast, h.gn]
  conv => whnf
  rw [hb1]
  have hx2 : (hb != hb) = false := by cases hb <;> rfl
  rw [hx2]
  conv => whnf
  rw [e4]
  conv => whnf
  rw [e47]
  walk_at "vg"
  rw [hb2, hx2]
  conv => whnf
  exact tl2
end
end Vc
end
section
open PySem PySem.W PyProof.Rows PySem.Calls
set_option autoImplicit false
set_option maxRecDepth 100000
namespace Vc
local macro_rules | `(tactic| walk_at "vs") => `(tactic| first | exact True.intro | exact rfl | omega | (simp only [intBits_nat]; omega) | (simp only [lim, List.length]; omega) | exact IntMulOk.of_left (by decide) | exact Nat.le_of_ble_eq_true rfl)
local macro_rules | `(tactic| walk_at "vg") => `(tactic| ((repeat ((conv => whnf); (try dsimp only [List.set, setvs]); refine And.intro (by walk_at "vs") ?_)); (conv => whnf); (try dsimp only [List.set, setvs])))
/-- behind the three halvings -/
structure S3 (d : Nat → Int) (n many : Nat) (B ls : List Nat) (s1 : Nat) (g : Cfg) (w v k : Nat) (t : Bool) : Prop where
  wl : w < 2 ^ n
  k0 : k ≠ 0
  kl : bl k ≤ n + 1
  vl : bl v ≤ n
  cond : ∀ p, p < 2 ^ many → (g.step (spelt ls p ++ B) s1 = w ↔ t = true ∧ prest (p ^^^ v) k = 0)
  wish : (d 12).fmod 3 ≠ 0 → w = g.step (spelt ls (lowN many (d 13)) ++ B) s1
section
variable {s0 : SV} {d : Nat → Int} {n : Nat} {x5 x6 x7 : SV} {P : Nat} {x9 : SV} {back : Bool} {c : Nat} {A B : List Nat} {many : Nat} {ls : List Nat} {o s1 : Nat} {x18 x19 x20 x21 x22 x23 x24 x25 x26 x27 x28 x29 x30 x31 x32 x33 x34 : SV} {objs : List AO} {g : Cfg}
theorem seg34 {w v k pt : Nat} {t : Bool} (h : H3 d n P back c A B many ls o s1 objs g) (hs : S3 d n many B ls s1 g w v k t) (hp : pt < 2 ^ many) :
    wpSs (cT L3 8) (dropS 34 x_law) ⟨vA s0 d n x5 x6 x7 P x9 back c A B many ls o s1 x18 x19 (.int w) x21 (.int v) (.bool t) x24 x25 (.int k) x27 x28 (.int pt) x30 x31 x32 x33 x34, objs⟩ SaysT := by
  have e : dropS 34 x_law = .cons (.set 30 (.bool .And (.cons (.var 23) (.cons (.cmp (.sub (.call (.glob 31) (.cons (.bin .BitXor (.var 29) (.var 22)) (.cons (.var 26) .nil))) (.lit (.int 1))) .Eq (.lit (.int 0))) .nil)))) (dropS 35 x_law) := rfl
  rw [e]
  have tl := fun hb heq => @seg35 s0 d n x5 x6 x7 P x9 back c A B many ls o s1 x18 x19 x21 (.int v) (.bool t) x24 x25 (.int k) x27 x28 x31 x32 x33 x34 objs g w pt hb h hs.wl hp heq
  generalize dropS 35 x_law = r at tl
  have hn : n ≤ 32 ∧ 8 ≤ n ∧ 8 * (n / 8) = n := by have := h.ok.n; rw [h.gn] at this; omega
  have hm2 := h.m2
  have hpb := bl_le.mpr hp
  have hvl := hs.vl
  have hkl := hs.kl
  have hk0 := hs.k0
  have hcond := hs.cond pt hp
  cases t with
  | false =>
    conv => whnf
    exact tl false (by rw [hcond]; simp)
  | true =>
    walk_at "vg"
    rw [bitXor_nat]
    have hxb : bl (pt ^^^ v) ≤ 40 := bl_xor_le (by omega) (by omega)
    refine ⟨⟨by omega, by omega, by rw [Int.toNat_natCast]; omega, by rw [Int.toNat_natCast]; omega⟩, ?_⟩
    rw [Int.toNat_natCast, Int.toNat_natCast]
    walk_at "vg"
    refine tl (decide (((prest (pt ^^^ v) k : Nat) : Int) = 0)) ?_
    rw [hcond, decide_eq_true_eq]
    simp
theorem seg32 {w v k : Nat} {t : Bool} (h : H3 d n P back c A B many ls o s1 objs g) (hs : S3 d n many B ls s1 g w v k t) :
    wpSs (cT L3 8) (dropS 32 x_law) ⟨vA s0 d n x5 x6 x7 P x9 back c A B many ls o s1 x18 x19 (.int w) x21 (.int v) (.bool t) x24 x25 (.int k) x27 x28 x29 x30 x31 x32 x33 x34, objs⟩ SaysT := by
  have e : dropS 32 x_law = .cons (.set 29 (.bin .BitAnd (.sub (.var 2) (.lit (.int 14))) (.bin .Sub (.bin .LShift (.lit (.int 1)) (.var 14)) (.lit (.int 1))))) (.cons
  (.ite (.bool .And (.cons (.var 23) (.cons (.cmp (.bin .Mod (.sub (.var 2) (.lit (.int 15))) (.lit (.int 4))) .Lt (.lit (.int 3))) .nil))) (.cons
  (.set 29 (.bin .BitXor (.var 22) (.call (.glob 32) (.cons (.var 26) (.cons (.bin .BitAnd (.sub (.var 2) (.lit (.int 14))) (.bin .Sub (.bin .LShift (.lit (.int 1)) (.bin .Sub (.bin .Add (.var 14) (.lit (.int 1))) (.bmeth .bitLength (.var 26) .nil))) (.lit (.int 1)))) .nil))))) (.cons
  (.ite (.cmp (.bin .Mod (.sub (.var 2) (.lit (.int 15))) (.lit (.int 4))) .Eq (.lit (.int 2))) (.cons
  (.aug 29 .BitXor (.bin .LShift (.lit (.int 1)) (.bin .Mod (.sub (.var 2) (.lit (.int 16))) (.var 14)))) .nil) .nil) .nil)) .nil) (dropS 34 x_law)) := rfl
  rw [e]
  have tl := fun pt hp => @seg34 s0 d n x5 x6 x7 P x9 back c A B many ls o s1 x18 x19 x21 x24 x25 x27 x28 x30 x31 x32 x33 x34 objs g w v k pt t h hs hp
  generalize dropS 34 x_law = r at tl
  have hn : n ≤ 32 ∧ 8 ≤ n ∧ 8 * (n / 8) = n := by have := h.ok.n; rw [h.gn] at this; omega
  have hm1 := h.m1
  have hm2 := h.m2
  have hvl := hs.vl
  have hkl := hs.kl
  have hk0 := hs.k0
  have i1 : Builtin.Int.intBits 1 = 1 := rfl
  have hl14 := lowN_lt many (d 14)
  walk_at "vg"
  rw [mask_low]
  cases t with
  | false =>
    conv => whnf
    exact tl _ hl14
  | true =>
    walk_at "vg"
    obtain ⟨k15, hk15, e15⟩ := fmod_nat (d 15) (m := 4) (by omega)
    rw [show (d 15).fmod 4 = (k15 : Int) from e15]
    generalize decide ((k15 : Int) < 3) = b15
    cases b15 with
    | false =>
      walk_at "vg"
      exact tl _ hl14
    | true =>
      have hkp := bl_pos.mpr hk0
      have es : (many : Int) + 1 - ((bl k : Nat) : Int) = ((many + 1 - bl k : Nat) : Int) := by omega
      have hl2 := lowN_lt (many + 1 - bl k) (d 14)
      have hb2 := bl_le.mpr hl2
      have hct : bl (ctimes k (lowN (many + 1 - bl k) (d 14))) ≤ many := by
        by_cases h2 : lowN (many + 1 - bl k) (d 14) = 0
        · rw [h2, ctimes_zero, bl_zero]; omega
        have := (ctimes_ne hk0 h2).2
        omega
      have hxx := bl_le.mp (bl_xor_le (m := many) (a := v) (by omega) hct)
      walk_at "vg"
      rw [intBits_nat, es, mask_low]
      refine ⟨⟨by omega, by omega, by rw [Int.toNat_natCast, Int.toNat_natCast]; omega⟩, ?_⟩
      rw [Int.toNat_natCast, Int.toNat_natCast]
      generalize hpt : v ^^^ ctimes k (lowN (many + 1 - bl k) (d 14)) = pt at hxx
      walk_at "vg"
      rw [bitXor_nat, hpt, show (d 15).fmod 4 = (k15 : Int) from e15]
      generalize decide ((k15 : Int) = 2) = b2
      cases b2 with
      | false =>
        walk_at "vg"
        exact tl _ hxx
      | true =>
        obtain ⟨k16, hk16, e16⟩ := fmod_nat (d 16) (m := many) (by omega)
        walk_at "vg"
        rw [show (d 16).fmod (many : Int) = (k16 : Int) from e16]
        rw [Int.one_mul, Int.toNat_natCast, show (2 : Int) ^ k16 = ((2 ^ k16 : Nat) : Int) by push_cast; rfl, bitXor_nat]
        exact tl _ (Nat.xor_lt_two_pow hxx (Nat.pow_lt_pow_right (by decide) hk16))
theorem seg31 {w v k : Nat} {t : Bool} (h : H3 d n P back c A B many ls o s1 objs g) (hs : S3 d n many B ls s1 g w v k t) :
    wpSs (cT L3 8) (dropS 31 x_law) ⟨vA s0 d n x5 x6 x7 P x9 back c A B many ls o s1 x18 x19 (.int w) x21 (.int v) (.bool t) x24 x25 (.int k) x27 x28 x29 x30 x31 x32 x33 x34, objs⟩ SaysT := by
  have e : dropS 31 x_law = .cons (.ite (.bool .And (.cons (.cmp (.bin .Mod (.sub (.var 2) (.lit (.int 12))) (.lit (.int 3))) .Gt (.lit (.int 0))) (.cons (.bool .Or (.cons (.not (.var 23)) (.cons (.sub (.call (.glob 31) (.cons (.bin .BitXor (.bin .BitAnd (.sub (.var 2) (.lit (.int 13))) (.bin .Sub (.bin .LShift (.lit (.int 1)) (.var 14)) (.lit (.int 1)))) (.var 22)) (.cons (.var 26) .nil))) (.lit (.int 1))) .nil))) .nil))) (.cons
  (.ret (.lit (.bool false))) .nil) .nil) (dropS 32 x_law) := rfl
  rw [e]
  have tl := @seg32 s0 d n x5 x6 x7 P x9 back c A B many ls o s1 x18 x19 x21 x24 x25 x27 x28 x29 x30 x31 x32 x33 x34 objs g w v k t h hs
  generalize dropS 32 x_law = r at tl
  have hn : n ≤ 32 ∧ 8 ≤ n ∧ 8 * (n / 8) = n := by have := h.ok.n; rw [h.gn] at this; omega
  have hm2 := h.m2
  have hvl := hs.vl
  have hkl := hs.kl
  have hk0 := hs.k0
  have i1 : Builtin.Int.intBits 1 = 1 := rfl
  have hl13 := lowN_lt many (d 13)
  have hb13 := bl_le.mpr hl13
  have hcond := hs.cond _ hl13
  have hwish := hs.wish
  obtain ⟨k12, hk12, e12⟩ := fmod_nat (d 12) (m := 3) (by omega)
  replace e12 : (d 12).fmod 3 = (k12 : Int) := e12
  rw [e12] at hwish
  walk_at "vg"
  rw [e12]
  by_cases hz : k12 = 0
  · subst hz
    rw [decide_eq_false (by decide)]
    walk_at "vg"
    exact tl
  · rw [decide_eq_true (show (0 : Int) < (k12 : Int) by omega)]
    obtain ⟨rfl, hq⟩ := hcond.mp (hwish (by omega)).symm
    walk_at "vg"
    rw [mask_low, bitXor_nat]
    have hxb : bl (lowN many (d 13) ^^^ v) ≤ 40 := bl_xor_le (by omega) (by omega)
    refine ⟨⟨by omega, by omega, by rw [Int.toNat_natCast]; omega, by rw [Int.toNat_natCast]; omega⟩, ?_⟩
    rw [Int.toNat_natCast, Int.toNat_natCast, hq]
    walk_at "vg"
    exact tl
end
end Vc
end
section
open PySem PySem.W PyProof.Rows PySem.Calls
set_option autoImplicit false
set_option maxRecDepth 100000
namespace Vc
local macro_rules | `(tactic| walk_at "vs") => `(tactic| first | exact True.intro | exact rfl | omega | (simp only [intBits_nat]; omega) | (simp only [lim, List.length]; omega) | exact IntMulOk.of_left (by decide) | exact Nat.le_of_ble_eq_true rfl)
local macro_rules | `(tactic| walk_at "vg") => `(tactic| ((repeat ((conv => whnf); (try dsimp only [List.set, setvs]); refine And.intro (by walk_at "vs") ?_)); (conv => whnf); (try dsimp only [List.set, setvs])))
def sqn : Nat → Nat → Nat
  | 0, p => p
  | j + 1, p => sq (sqn j p)
/-- ahead of the i-th halving -/
structure I3 (n many : Nat) (X : Nat → Prop) (i v w T k M : Nat) : Prop where
  vl : bl v ≤ n
  k0 : k ≠ 0
  kl : bl k ≤ n + 1
  lo : i < 3 → M % 2 = 1 ∧ bl M ≤ n + 1 ∧ w = hw M ∧ T = hT M ∧ k = hk M ∧ ∀ p, p < 2 ^ many → (X p ↔ prest (sqn (3 - i) p ^^^ v) M = 0)
  hi : i = 3 → ∀ p, p < 2 ^ many → (X p ↔ prest (p ^^^ v) k = 0)
section
variable {s0 : SV} {d : Nat → Int} {n : Nat} {x5 x6 x7 : SV} {P : Nat} {x9 : SV} {back : Bool} {c : Nat} {A B : List Nat} {many : Nat} {ls : List Nat} {o s1 : Nat} {x18 x19 x20 x21 x22 x23 x24 x25 x26 x27 x28 x29 x30 x31 x32 x33 x34 : SV} {objs : List AO} {g : Cfg}
theorem seg30 {w v w0 T k : Nat} (h : H3 d n P back c A B many ls o s1 objs g) (hwl : w < 2 ^ n) (hwish : (d 12).fmod 3 ≠ 0 → w = g.step (spelt ls (lowN many (d 13)) ++ B) s1)
    (h0 : I3 n many (fun p => g.step (spelt ls p ++ B) s1 = w) 0 v w0 T k P) :
    wpSs (cT L3 8) (dropS 30 x_law) ⟨vA s0 d n x5 x6 x7 P x9 back c A B many ls o s1 x18 x19 (.int w) x21 (.int v) (.bool true) (.int w0) (.int T) (.int k) x27 x28 x29 x30 x31 x32 x33 x34, objs⟩ SaysT := by
  have e : dropS 30 x_law = .cons (.fr [9] (.call (.glob 106) (.cons (.lit (.int 3)) .nil)) (.cons
  (.setT [27, 28] (.call (.glob 31) (.cons (.call (.glob 30) (.cons (.bin .RShift (.var 22) (.lit (.int 1))) (.cons (.var 1) .nil))) (.cons (.var 25) .nil)))) (.cons
  (.ite (.var 28) (.cons
  (.set 23 (.lit (.bool false))) (.cons
  .brk .nil)) .nil) (.cons
  (.set 22 (.sub (.call (.glob 31) (.cons (.bin .BitXor (.call (.glob 30) (.cons (.var 22) (.cons (.var 1) .nil))) (.call (.glob 32) (.cons (.var 24) (.cons (.var 27) .nil)))) (.cons (.var 26) .nil))) (.lit (.int 1)))) (.cons
  (.ite (.bool .And (.cons (.cmp (.var 25) .Gt (.lit (.int 1))) (.cons (.cmp (.var 9) .Lt (.lit (.int 2))) .nil))) (.cons
  (.setT [24, 25, 26] (.call (.glob 34) (.cons (.var 26) (.cons (.var 1) .nil)))) .nil) .nil) .nil))))) (dropS 31 x_law) := rfl
  rw [e]
  have tl := fun x9 v t x24 x25 k x27 x28 hs => @seg31 s0 d n x5 x6 x7 P x9 back c A B many ls o s1 x18 x19 x21 x24 x25 x27 x28 x29 x30 x31 x32 x33 x34 objs g w v k t h hs
  generalize dropS 31 x_law = r at tl
  have hn : n ≤ 32 ∧ 8 ≤ n ∧ 8 * (n / 8) = n := by have := h.ok.n; rw [h.gn] at this; omega
  conv => whnf
  refine ⟨by show 3 ≤ lim; decide, ?_⟩
  refine for_ok (fun i σ => ∃ v w0 T k M, ∃ x9 x27 x28 : SV, i ≤ 3 ∧ I3 n many (fun p => g.step (spelt ls p ++ B) s1 = w) i v w0 T k M ∧ σ = ⟨vA s0 d n x5 x6 x7 P x9 back c A B many ls o s1 x18 x19 (.int w) x21 (.int v) (.bool true) (.int w0) (.int T) (.int k) x27 x28 x29 x30 x31 x32 x33 x34, objs⟩)
    ⟨v, w0, T, k, P, x9, x27, x28, by omega, h0, rfl⟩ (fun _ σ _ => rng_small (k := 3) (by omega)) ?_ ?_
  · rintro i x σ R hx ⟨v, w0, T, k, M, x9', x27', x28', hi3, hI, rfl⟩ hnext _ hbrk _
    obtain ⟨hi, rfl⟩ := rng_get (k := 3) hx
    obtain ⟨Mo, Ml, rfl, rfl, rfl, hX⟩ := hI.lo hi
    have hvl := hI.vl
    have hkl := hI.kl
    have HO := halfOk Mo (by omega)
    have hT0 := HO.T0
    have hk0 := HO.k0
    have hbw := HO.bw
    have hbT := HO.bT
    have hbk := HO.bk
    have hpb := fun p => HO.roots (sqn (2 - i) p) v
    have hTp := bl_pos.mpr hT0
    have hv64 : v < 2 ^ 64 := Nat.lt_of_lt_of_le (bl_le.mp hvl) (Nat.pow_le_pow_right (by decide) (by omega))
    have hv2 : v / 2 < 2 ^ 64 := by omega
    have sh1 : (v : Int).fdiv (2 ^ (1 : Int).toNat) = ((v / 2 : Nat) : Int) := by rw [one_nat, shr_nat, Nat.pow_one]
    have be1 : bl (ev v) ≤ 30 := ev_bl (by omega)
    have be2 : bl (ev (v / 2)) ≤ 30 := ev_bl (half_bl (by omega))
    have bsh : bl (pshare (ev (v / 2)) (hT M)) ≤ 31 := Nat.le_trans (pshare_bl hT0 _) (by omega)
    have bct : bl (ctimes (hw M) (pshare (ev (v / 2)) (hT M))) ≤ 140 := ctimes_bl (by omega)
    have bx : bl (ev v ^^^ ctimes (hw M) (pshare (ev (v / 2)) (hT M))) ≤ 140 := bl_xor_le (by omega) bct
    have bv2 := prest_bl hk0 (ev v ^^^ ctimes (hw M) (pshare (ev (v / 2)) (hT M)))
    have hsq : ∀ p, sqn (3 - i) p = sq (sqn (2 - i) p) := fun p => by rw [show 3 - i = 2 - i + 1 by omega]; rfl
    have hnew : ∀ p, p < 2 ^ many → prest (ev (v / 2)) (hT M) = 0 → (g.step (spelt ls p ++ B) s1 = w ↔ prest (sqn (2 - i) p ^^^ prest (ev v ^^^ ctimes (hw M) (pshare (ev (v / 2)) (hT M))) (hk M)) (hk M) = 0) := fun p hp hl => by
      rw [hX p hp, hsq, hpb p]
      rw [prest_xor hk0 (sqn (2 - i) p), prest_idem hk0, ← prest_xor hk0, ← Nat.xor_assoc]
      exact ⟨fun q => q.2, fun q => ⟨hl, q⟩⟩
    walk_at "vg"
    rw [sh1]
    refine ⟨⟨by omega, by rw [Int.toNat_natCast]; exact hv2, rfl⟩, ?_⟩
    rw [Int.toNat_natCast]
    walk_at "vg"
    refine ⟨⟨by omega, by omega, by rw [Int.toNat_natCast]; omega, by rw [Int.toNat_natCast]; omega⟩, ?_⟩
    rw [Int.toNat_natCast, Int.toNat_natCast]
    walk_at "vg"
    refine drec (fun hl => ?_) (fun hl => ?_)
    · have hl' : prest (ev (v / 2)) (hT M) ≠ 0 := by
        have := of_decide_eq_true hl
        omega
      walk_at "vg"
      refine hbrk _ ?_
      refine tl (.int i) v false (.int (hw M)) (.int (hT M)) (hk M) (.int (pshare (ev (v / 2)) (hT M) : Nat)) (.int (prest (ev (v / 2)) (hT M) : Nat)) ⟨hwl, hk0, by omega, hvl, fun p hp => ?_, hwish⟩
      rw [hX p hp, hsq, hpb p]
      constructor
      · intro q; exact (hl' q.1).elim
      · intro q; exact absurd q.1 (by decide)
    · have hl' : prest (ev (v / 2)) (hT M) = 0 := by
        by_cases q : prest (ev (v / 2)) (hT M) = 0
        · exact q
        · exact (hl (decide_eq_true (by omega))).elim
      rw [hl']
      have hnew := fun p hp => hnew p hp hl'
      have bv3 : bl (prest (ev v ^^^ ctimes (hw M) (pshare (ev (v / 2)) (hT M))) (hk M)) ≤ n := by omega
      walk_at "vg"
      refine ⟨⟨by omega, by rw [Int.toNat_natCast]; exact hv64, rfl⟩, ?_⟩
      rw [Int.toNat_natCast]
      walk_at "vg"
      refine ⟨⟨by omega, by omega, by rw [Int.toNat_natCast, Int.toNat_natCast]; omega⟩, ?_⟩
      rw [Int.toNat_natCast, Int.toNat_natCast]
      walk_at "vg"
      rw [bitXor_nat]
      refine ⟨⟨by omega, by omega, by rw [Int.toNat_natCast]; omega, by rw [Int.toNat_natCast]; omega⟩, ?_⟩
      rw [Int.toNat_natCast, Int.toNat_natCast]
      generalize prest (ev v ^^^ ctimes (hw M) (pshare (ev (v / 2)) (hT M))) (hk M) = v' at *
      generalize pshare (ev (v / 2)) (hT M) = sh at *
      walk_at "vg"
      by_cases hT1 : hT M = 1
      · -- no square divides M
        rw [decide_eq_false (show ¬ (1 : Int) < ((hT M : Nat) : Int) by omega)]
        walk_at "vg"
        have hkM : hk M = M := by
          have := HO.mul
          rw [hT1, ctimes_one] at this
          exact this.symm
        refine hnext _ ⟨v', hw M, hT M, hk M, M, .int i, .int sh, .int 0, by omega, ⟨bv3, hk0, by omega, fun q => ⟨Mo, Ml, rfl, rfl, rfl, fun p hp => ?_⟩, fun q p hp => ?_⟩, rfl⟩
        · have := hnew p hp
          rw [hkM] at this
          rw [show 3 - (i + 1) = 2 - i by omega]; exact this
        · have := hnew p hp
          rw [show 2 - i = 0 by omega] at this
          exact this
      · rw [decide_eq_true (show (1 : Int) < ((hT M : Nat) : Int) by omega)]
        walk_at "vg"
        by_cases hi2 : i < 2
        · rw [decide_eq_true (show (i : Int) < 2 by omega)]
          have HO2 := halfOk (M := hk M) HO.odd (by omega)
          have b2 := HO2.bk
          walk_at "vg"
          refine ⟨⟨by omega, by rw [Int.toNat_natCast]; exact HO.odd, by rw [Int.toNat_natCast]; omega, rfl⟩, ?_⟩
          rw [Int.toNat_natCast]
          walk_at "vg"
          refine hnext _ ⟨v', hw (hk M), hT (hk M), hk (hk M), hk M, .int i, .int sh, .int 0, by omega, ⟨bv3, HO2.k0, by omega, fun q => ⟨HO.odd, by omega, rfl, rfl, rfl, fun p hp => ?_⟩, fun q => ?_⟩, rfl⟩
          · rw [show 3 - (i + 1) = 2 - i by omega]; exact hnew p hp
          · omega
        · rw [decide_eq_false (show ¬ (i : Int) < 2 by omega)]
          walk_at "vg"
          refine hnext _ ⟨v', hw M, hT M, hk M, M, .int i, .int sh, .int 0, by omega, ⟨bv3, hk0, by omega, fun q => ?_, fun q p hp => ?_⟩, rfl⟩
          · omega
          · have := hnew p hp
            rw [show 2 - i = 0 by omega] at this
            exact this
  · rintro σ ⟨v, w0, T, k, M, x9', x27', x28', -, hI, rfl⟩
    have hi := hI.hi (rng_len 3)
    exact tl _ _ true _ _ _ _ _ ⟨hwl, hI.k0, hI.kl, hI.vl, fun p hp => by rw [hi p hp]; simp, hwish⟩
end
end Vc
end
section
open PySem PySem.W PyProof.Rows PySem.Calls
set_option autoImplicit false
set_option maxRecDepth 100000
namespace Vc
local macro_rules | `(tactic| walk_at "vs") => `(tactic| first | exact True.intro | exact rfl | omega | (simp only [intBits_nat]; omega) | (simp only [lim, List.length]; omega) | exact IntMulOk.of_left (by decide) | exact Nat.le_of_ble_eq_true rfl)
local macro_rules | `(tactic| walk_at "vg") => `(tactic| ((repeat ((conv => whnf); (try dsimp only [List.set, setvs]); refine And.intro (by walk_at "vs") ?_)); (conv => whnf); (try dsimp only [List.set, setvs])))
section
variable {s0 : SV} {d : Nat → Int} {n : Nat} {x5 x6 x7 : SV} {P : Nat} {x9 : SV} {back : Bool} {c : Nat} {A B : List Nat} {many : Nat} {ls : List Nat} {o s1 : Nat} {x18 x19 x20 x21 x22 x23 x24 x25 x26 x27 x28 x29 x30 x31 x32 x33 x34 : SV} {objs : List AO} {g : Cfg}
theorem seg27 {w v : Nat} (h : H3 d n P back c A B many ls o s1 objs g) (hwl : w < 2 ^ n) (hwish : (d 12).fmod 3 ≠ 0 → w = g.step (spelt ls (lowN many (d 13)) ++ B) s1)
    (hv : v = phi back n (w ^^^ g.step B (g.step (spelt ls 0) s1))) :
    wpSs (cT L3 8) (dropS 27 x_law) ⟨vA s0 d n x5 x6 x7 P x9 back c A B many ls o s1 x18 x19 (.int w) x21 (.int v) x23 x24 x25 x26 x27 x28 x29 x30 x31 x32 x33 x34, objs⟩ SaysT := by
  have e : dropS 27 x_law = .cons (.fr [9] (.call (.glob 106) (.cons (.bin .Add (.bin .Add (.var 3) (.bin .Mult (.lit (.int 8)) (.call (.glob 100) (.cons (.var 13) .nil)))) (.ife (.var 10) (.lit (.int 2)) (.lit (.int 5)))) .nil)) (.cons
  (.ite (.bin .BitAnd (.var 22) (.lit (.int 1))) (.cons
  (.aug 22 .BitXor (.var 8)) .nil) .nil) (.cons
  (.aug 22 .RShift (.lit (.int 1))) .nil))) (.cons
  (.set 23 (.lit (.bool true))) (.cons
  (.setT [24, 25, 26] (.call (.glob 34) (.cons (.var 8) (.cons (.var 1) .nil)))) (dropS 30 x_law))) := rfl
  rw [e]
  have tl := fun x9 v w0 T k h0 => @seg30 s0 d n x5 x6 x7 P x9 back c A B many ls o s1 x18 x19 x21 x27 x28 x29 x30 x31 x32 x33 x34 objs g w v w0 T k h hwl hwish h0
  generalize dropS 30 x_law = r at tl
  have hn : n ≤ 32 ∧ 8 ≤ n ∧ 8 * (n / 8) = n := by have := h.ok.n; rw [h.gn] at this; omega
  have hP : bl P = n + 1 := by rw [← h.gP, ← h.gn]; exact h.ok.P
  have hPl : P < 2 ^ (n + 1) := bl_le.mp (Nat.le_of_eq hP)
  have hPo := h.odd
  have hBl := h.hB.1
  have hBlim : B.length ≤ lim := by simp only [lim]; omega
  have hm1 := h.m1
  have htext := fun p (hp : p < 2 ^ many) => text_eq3 (g := g) (ls := ls) (B := B) (s1 := s1) (wish := w) (p := p) h.ok (by rw [h.gP]; exact hPo) h.ls8 h.hB.2 (by rw [h.gn]; exact h.s1l) (by rw [h.gn]; exact hwl) (by rw [h.lsl]; exact hp)
  have hvl : v < 2 ^ n := by
    rw [hv]
    refine phi_lt (Nat.xor_lt_two_pow hwl ?_)
    rw [← h.gn]
    exact step_lt' h.ok h.hB.2 (step_lt' h.ok (spelt_lt h.ls8) (by rw [h.gn]; exact h.s1l))
  rw [h.gP, h.gn, h.gb, ← hv] at htext
  generalize hK : n + 8 * B.length + bt back = K at htext
  have hKb : K ≤ 200 := by
    have : bt back ≤ 5 := by unfold bt; split <;> omega
    omega
  have hKi : ∀ z : Int, z = (bt back : Nat) → (n : Int) + 8 * (B.length : Int) + z = (K : Int) := fun z hz => by rw [hz, ← hK]; push_cast; rfl
  have main : forW [9] (wpSs (cT L3 8) (.cons (.ite (.bin .BitAnd (.var 22) (.lit (.int 1))) (.cons
  (.aug 22 .BitXor (.var 8)) .nil) .nil) (.cons
  (.aug 22 .RShift (.lit (.int 1))) .nil))) (guardOf (.rng 0 (K : Int) 1) (rngItems 0 (K : Int) 1)) (rngItems 0 (K : Int) 1) ⟨vA s0 d n x5 x6 x7 P x9 back c A B many ls o s1 x18 x19 (.int w) x21 (.int v) x23 x24 x25 x26 x27 x28 x29 x30 x31 x32 x33 x34, objs⟩ (fun fl σ1 =>
        match fl with
        | .next => wpSs (cT L3 8) (.cons (.set 23 (.lit (.bool true))) (.cons
  (.setT [24, 25, 26] (.call (.glob 34) (.cons (.var 8) (.cons (.var 1) .nil)))) r)) σ1 SaysT
        | fl => SaysT fl σ1) := by
    refine for_ok (fun i σ => ∃ x9, σ = ⟨vA s0 d n x5 x6 x7 P x9 back c A B many ls o s1 x18 x19 (.int w) x21 (.int (biter P i v : Nat)) x23 x24 x25 x26 x27 x28 x29 x30 x31 x32 x33 x34, objs⟩) ⟨x9, rfl⟩ (fun _ σ _ => rng_small (by omega)) ?_ ?_
    · rintro i x σ R hx ⟨z, rfl⟩ hnext _ _ _
      rw [biter_succ] at hnext
      generalize biter P i v = u at *
      have hodd : Builtin.bitAnd (u : Int) 1 = ((u % 2 : Nat) : Int) := by rw [bitAnd_m1]; rfl
      walk_at "vg"
      refine drec (fun hc => ?_) (fun hc => ?_)
      · have hc' : u % 2 = 1 := by
          rw [hodd] at hc
          have : ¬ u % 2 = 0 := by
            intro e; rw [e] at hc; revert hc; decide
          omega
        walk_at "vg"
        refine hnext _ ⟨x, ?_⟩
        rw [bitXor_nat, one_nat, shr_nat]
        unfold bstep
        rw [if_pos hc']
        rfl
      · have hc' : ¬ u % 2 = 1 := by
          rw [hodd] at hc
          intro e; rw [e] at hc; revert hc; decide
        walk_at "vg"
        refine hnext _ ⟨x, ?_⟩
        rw [one_nat, shr_nat]
        unfold bstep
        rw [if_neg hc']
        rfl
    · rintro σ ⟨z, rfl⟩
      rw [rng_len]
      have hHO := halfOk hPo (by omega)
      have hbk := hHO.bk
      have hbi := bl_le.mpr (biter_lt hPl K v hvl)
      walk_at "vg"
      refine ⟨⟨by omega, by rw [Int.toNat_natCast]; exact hPo, by rw [Int.toNat_natCast]; omega, rfl⟩, ?_⟩
      rw [Int.toNat_natCast]
      walk_at "vg"
      exact tl _ _ _ _ _ ⟨hbi, hHO.k0, by omega, fun _ => ⟨hPo, by omega, rfl, rfl, rfl, htext⟩, fun q => by omega⟩
  cases back with
  | true =>
    have e1 := hKi 2 rfl
    conv => whnf
    refine ⟨hBlim, ?_⟩
    walk_at "vg"
    rw [e1]
    refine ⟨by rw [rng_len]; simp only [lim]; omega, ?_⟩
    exact main
  | false =>
    have e1 := hKi 5 rfl
    conv => whnf
    refine ⟨hBlim, ?_⟩
    walk_at "vg"
    rw [e1]
    refine ⟨by rw [rng_len]; simp only [lim]; omega, ?_⟩
    exact main
end
end Vc
end
section
open PySem PySem.W PyProof.Rows PySem.Calls
set_option autoImplicit false
set_option maxRecDepth 100000
namespace Vc
local macro_rules | `(tactic| walk_at "vs") => `(tactic| first | exact True.intro | exact rfl | omega | (simp only [intBits_nat]; omega) | (simp only [lim, List.length]; omega) | exact IntMulOk.of_left (by decide) | exact Nat.le_of_ble_eq_true rfl)
local macro_rules | `(tactic| walk_at "vg") => `(tactic| ((repeat ((conv => whnf); (try dsimp only [List.set, setvs]); refine And.intro (by walk_at "vs") ?_)); (conv => whnf); (try dsimp only [List.set, setvs])))
section
variable {s0 : SV} {d : Nat → Int} {n : Nat} {x5 x6 x7 : SV} {P : Nat} {x9 : SV} {back : Bool} {c : Nat} {A B : List Nat} {many : Nat} {ls : List Nat} {o s1 : Nat} {x18 x19 x20 x21 x22 x23 x24 x25 x26 x27 x28 x29 x30 x31 x32 x33 x34 : SV} {objs : List AO} {g : Cfg}
theorem seg24 {w q : Nat} (h : H3 d n P back c A B many ls o s1 objs g) (hwl : w < 2 ^ n) (hwish : (d 12).fmod 3 ≠ 0 → w = g.step (spelt ls (lowN many (d 13)) ++ B) s1) (hq : IsCrc objs q g (g.step B (g.step (spelt ls 0) s1))) :
    wpSs (cT L3 8) (dropS 24 x_law) ⟨vA s0 d n x5 x6 x7 P x9 back c A B many ls o s1 x18 (.ref q) (.int w) x21 x22 x23 x24 x25 x26 x27 x28 x29 x30 x31 x32 x33 x34, objs⟩ SaysT := by
  have e : dropS 24 x_law = .cons (.set 22 (.bin .BitXor (.var 20) (.attr (.var 19) 7))) (.cons
  (.ite (.bool .Or (.cons (.not (.call (.glob 101) (.cons (.var 22) (.cons (.glob 102) .nil)))) (.cons (.cmp (.var 22) .NotEq (.bin .BitAnd (.var 22) (.var 4))) .nil))) (.cons
  (.ret (.lit (.bool false))) .nil) .nil) (.cons
  (.ite (.var 10) (.cons
  (.set 22 (.call (.glob 36) (.cons (.var 22) (.cons (.var 3) .nil)))) .nil) .nil) (dropS 27 x_law))) := rfl
  rw [e]
  have tl := fun v hv => @seg27 s0 d n x5 x6 x7 P x9 back c A B many ls o s1 x18 (.ref q) x21 x23 x24 x25 x26 x27 x28 x29 x30 x31 x32 x33 x34 objs g w v h hwl hwish hv
  generalize dropS 27 x_law = r at tl
  have hn : n ≤ 32 ∧ 8 ≤ n ∧ 8 * (n / 8) = n := by have := h.ok.n; rw [h.gn] at this; omega
  have hpl : g.step B (g.step (spelt ls 0) s1) < 2 ^ n := by
    rw [← h.gn]
    exact step_lt' h.ok h.hB.2 (step_lt' h.ok (spelt_lt h.ls8) (by rw [h.gn]; exact h.s1l))
  generalize g.step B (g.step (spelt ls 0) s1) = pl at *
  obtain ⟨f1, e1, -, -, -, -, -, -, -, -, e17⟩ := id hq
  have hx := Nat.xor_lt_two_pow hwl hpl
  have hxb := bl_le.mpr hx
  have hand : Builtin.bitAnd ((w ^^^ pl : Nat) : Int) (2 ^ n - 1) = ((w ^^^ pl : Nat) : Int) := by
    rw [and_low, lowN_nat, Nat.mod_eq_of_lt hx]
  conv => whnf
  rw [e1]
  conv => whnf
  rw [e17]
  conv => whnf
  rw [bitXor_nat]
  generalize hv0 : w ^^^ pl = v0 at *
  walk_at "vg"
  rw [hand, show decide ((v0 : Int) ≠ (v0 : Int)) = false from decide_eq_false (fun f => f rfl)]
  cases back with
  | true =>
    walk_at "vg"
    refine ⟨⟨by omega, by omega, by omega, by rw [Int.toNat_natCast]; omega⟩, ?_⟩
    rw [Int.toNat_natCast, Int.toNat_natCast]
    exact tl _ rfl
  | false =>
    walk_at "vg"
    exact tl _ rfl
theorem seg23 {q : Nat} (h : H3 d n P back c A B many ls o s1 objs g) (hq : IsCrc objs q g (g.step B (g.step (spelt ls 0) s1))) :
    wpSs (cT L3 8) (dropS 23 x_law) ⟨vA s0 d n x5 x6 x7 P x9 back c A B many ls o s1 x18 (.ref q) x20 x21 x22 x23 x24 x25 x26 x27 x28 x29 x30 x31 x32 x33 x34, objs⟩ SaysT := by
  have e : dropS 23 x_law = .cons (.ite (.cmp (.bin .Mod (.sub (.var 2) (.lit (.int 12))) (.lit (.int 3))) .Eq (.lit (.int 0))) (.cons
  (.set 20 (.bin .BitAnd (.sub (.var 2) (.lit (.int 13))) (.var 4))) .nil) (.cons
  (.set 21 (.meth 1 (.var 16) .nil)) (.cons
  (.ex (.meth 2 (.var 21) (.cons (.bin .Add (.call (.glob 35) (.cons (.var 15) (.cons (.bin .BitAnd (.sub (.var 2) (.lit (.int 13))) (.bin .Sub (.bin .LShift (.lit (.int 1)) (.var 14)) (.lit (.int 1)))) .nil))) (.var 13)) .nil))) (.cons
  (.set 20 (.attr (.var 21) 7)) .nil)))) (dropS 24 x_law) := rfl
  rw [e]
  have tl := fun w x21 objs h hwl hwish hq => @seg24 s0 d n x5 x6 x7 P x9 back c A B many ls o s1 x18 x21 x22 x23 x24 x25 x26 x27 x28 x29 x30 x31 x32 x33 x34 objs g w q h hwl hwish hq
  generalize dropS 24 x_law = r at tl
  have hn : n ≤ 32 ∧ 8 ≤ n ∧ 8 * (n / 8) = n := by have := h.ok.n; rw [h.gn] at this; omega
  have hm1 := h.m1
  have hm2 := h.m2
  have hll := h.lsl
  have hBl := h.hB.1
  have hql := hq.lt
  have i1 : Builtin.Int.intBits 1 = 1 := rfl
  walk_at "vg"
  refine drec (fun hz => ?_) (fun hz => ?_)
  · have hz' : (d 12).fmod 3 = 0 := of_decide_eq_true hz
    walk_at "vg"
    rw [and_low]
    exact tl _ _ _ h (lowN_lt _ _) (fun f => (f hz').elim) hq
  · have hlo := h.one.lt
    have hlc := h.cr.lt
    obtain ⟨f1, e1, -⟩ := id h.one
    have hl13 := lowN_lt many (d 13)
    have hb13 := bl_le.mpr hl13
    conv => whnf
    rw [e1]
    walk_at "vg"
    refine ⟨g, s1, h.ok, h.one, fun objs1 k1 c1 => ?_⟩
    change KeepsBut objs.length objs objs1 at k1
    change IsCrc objs1 objs.length g s1 at c1
    have h1 := h.keep k1 (by omega) (by omega)
    have hq1 := hq.keep k1 (by omega)
    generalize hi : objs.length = i at *
    have hli := c1.lt
    obtain ⟨f2, e2, -⟩ := id c1
    walk_at "vg"
    rw [e2]
    walk_at "vg"
    rw [mask_low]
    refine ⟨ls, ⟨rfl, by omega, h.ls8, by omega, by rw [Int.toNat_natCast]; omega⟩, fun objs2 k2 => ?_⟩
    rw [Int.toNat_natCast]
    change KeepsBut objs1.length objs1 objs2 at k2
    have h2 := h1.keep k2 (by have := h1.cr.lt; omega) (by have := h1.one.lt; omega)
    have c2 := c1.keep k2 (by omega)
    have hq2 := hq1.keep k2 (by have := hq1.lt; omega)
    have hsl : (spelt ls (lowN many (d 13))).length = ls.length := spelt_len ls _
    have hoB : Octs (spelt ls (lowN many (d 13)) ++ B) := ⟨by rw [List.length_append]; omega, fun x hx => (List.mem_append.mp hx).elim (spelt_lt h.ls8 x) (h.hB.2 x)⟩
    have hv : g.step (spelt ls (lowN many (d 13)) ++ B) s1 < 2 ^ n := by
      rw [← h.gn]
      exact step_lt' h.ok hoB.2 (by rw [h.gn]; exact h.s1l)
    have tl := fun objs h => tl (g.step (spelt ls (lowN many (d 13)) ++ B) s1) (.ref i) objs h hv (fun _ => rfl)
    generalize hD : spelt ls (lowN many (d 13)) = D at *
    have hDl : D.length + B.length ≤ lim := by simp only [lim]; omega
    conv => whnf
    refine ⟨hDl, ?_⟩
    walk_at "vg"
    refine ⟨g, s1, h.ok, by rw [h.gn]; exact h.s1l, hoB, c2, fun objs3 k3 c3 => ?_⟩
    have h3 := h2.keep k3 (by omega) (by omega)
    have hq3 := hq2.keep k3 (by omega)
    generalize g.step (D ++ B) s1 = y at *
    obtain ⟨f3, e3, -, -, -, -, -, -, -, -, e37⟩ := id c3
    walk_at "vg"
    rw [e3]
    conv => whnf
    rw [e37]
    walk_at "vg"
    exact tl _ h3 hq3
theorem seg20 (h : H3 d n P back c A B many ls o s1 objs g) :
    wpSs (cT L3 8) (dropS 20 x_law) ⟨vA s0 d n x5 x6 x7 P x9 back c A B many ls o s1 x18 x19 x20 x21 x22 x23 x24 x25 x26 x27 x28 x29 x30 x31 x32 x33 x34, objs⟩ SaysT := by
  have e : dropS 20 x_law = .cons (.set 19 (.meth 1 (.var 16) .nil)) (.cons
  (.ex (.meth 2 (.var 19) (.cons (.call (.glob 35) (.cons (.var 15) (.cons (.lit (.int 0)) .nil))) .nil))) (.cons
  (.ex (.meth 2 (.var 19) (.cons (.var 13) .nil))) (dropS 23 x_law))) := rfl
  rw [e]
  have tl := fun q objs h hq => @seg23 s0 d n x5 x6 x7 P x9 back c A B many ls o s1 x18 x20 x21 x22 x23 x24 x25 x26 x27 x28 x29 x30 x31 x32 x33 x34 objs g q h hq
  generalize dropS 23 x_law = r at tl
  have hn : n ≤ 32 ∧ 8 ≤ n ∧ 8 * (n / 8) = n := by have := h.ok.n; rw [h.gn] at this; omega
  have hm1 := h.m1
  have hm2 := h.m2
  have hll := h.lsl
  have hBl := h.hB.1
  have hlo := h.one.lt
  have hlc := h.cr.lt
  have hoB : Octs B := ⟨by omega, h.hB.2⟩
  have hsl : (spelt ls 0).length = ls.length := spelt_len ls _
  have hoD : Octs (spelt ls 0) := ⟨by omega, spelt_lt h.ls8⟩
  obtain ⟨f1, e1, -⟩ := id h.one
  conv => whnf
  rw [e1]
  walk_at "vg"
  refine ⟨g, s1, h.ok, h.one, fun objs1 k1 c1 => ?_⟩
  change KeepsBut objs.length objs objs1 at k1
  change IsCrc objs1 objs.length g s1 at c1
  have h1 := h.keep k1 (by omega) (by omega)
  generalize hi : objs.length = i at *
  have hli := c1.lt
  obtain ⟨f2, e2, -⟩ := id c1
  walk_at "vg"
  rw [e2]
  walk_at "vg"
  refine ⟨ls, ⟨rfl, by omega, h.ls8, by decide, by decide⟩, fun objs2 k2 => ?_⟩
  change KeepsBut objs1.length objs1 objs2 at k2
  have h2 := h1.keep k2 (by have := h1.cr.lt; omega) (by have := h1.one.lt; omega)
  have c2 := c1.keep k2 (by omega)
  rw [show (0 : Int).toNat = 0 from rfl]
  walk_at "vg"
  refine ⟨g, s1, h.ok, by rw [h.gn]; exact h.s1l, hoD, c2, fun objs3 k3 c3 => ?_⟩
  have h3 := h2.keep k3 (by omega) (by omega)
  have hv3 : g.step (spelt ls 0) s1 < 2 ^ g.n := step_lt' h.ok hoD.2 (by rw [h.gn]; exact h.s1l)
  obtain ⟨f3, e3, -⟩ := id c3
  walk_at "vg"
  rw [e3]
  walk_at "vg"
  refine ⟨g, _, h.ok, hv3, hoB, c3, fun objs4 k4 c4 => ?_⟩
  have h4 := h3.keep k4 (by omega) (by omega)
  walk_at "vg"
  exact tl _ _ h4 c4
end
end Vc
end
section
open PySem PySem.W PyProof.Rows PySem.Calls
set_option autoImplicit false
set_option maxRecDepth 100000
namespace Vc
local macro_rules | `(tactic| walk_at "vs") => `(tactic| first | exact True.intro | exact rfl | omega | (simp only [intBits_nat]; omega) | (simp only [lim, List.length]; omega) | exact IntMulOk.of_left (by decide) | exact Nat.le_of_ble_eq_true rfl)
local macro_rules | `(tactic| walk_at "vg") => `(tactic| ((repeat ((conv => whnf); (try dsimp only [List.set, setvs]); refine And.intro (by walk_at "vs") ?_)); (conv => whnf); (try dsimp only [List.set, setvs])))
def vC (s0 : SV) (d : Nat → Int) (n : Nat) (x5 x6 x7 : SV) (P : Nat) (x9 x10 x11 x12 x13 x14 x15 x16 x17 : SV) : List SV :=
  [s0, masksV, .lst (drawL d), .int n, .int (2 ^ n - 1), x5, x6, x7, .int P, x9, x10, x11, x12, x13, x14, x15, x16, x17, .unb, .unb, .unb, .unb, .unb, .unb, .unb, .unb, .unb, .unb, .unb, .unb, .unb, .unb, .unb, .unb, .unb]
def octA (v : Int) (k : Nat) : List Nat := (List.range k).map fun i => lowN 8 (v.fdiv (2 ^ (8 * i + 2)))
theorem octA_len {v : Int} {k : Nat} : (octA v k).length = k := by unfold octA; simp
theorem octA_lt {v : Int} {k : Nat} : ∀ x ∈ octA v k, x < 256 := fun x hx => by
  obtain ⟨i, _, rfl⟩ := List.mem_map.mp hx
  exact lowN_lt 8 _
def letA (a b : Int) (i : Nat) : Nat := 97 + ((a.fdiv (2 ^ (5 * i)) + i * b).fmod 26).toNat
def letL (a b : Int) (k : Nat) : List Nat := (List.range k).map (letA a b)
theorem letL_len {a b : Int} {k : Nat} : (letL a b k).length = k := by unfold letL; simp
theorem letA_eq (a b : Int) (i : Nat) : (97 : Int) + (a.fdiv (2 ^ (5 * i)) + i * b).fmod 26 = ((letA a b i : Nat) : Int) ∧ letA a b i < 256 := by
  obtain ⟨k, hk, e⟩ := fmod_nat (a.fdiv (2 ^ (5 * i)) + i * b) (m := 26) (by omega)
  replace e : (a.fdiv (2 ^ (5 * i)) + i * b).fmod 26 = (k : Int) := e
  unfold letA
  rw [e]
  omega
theorem letL_lt {a b : Int} {k : Nat} : ∀ x ∈ letL a b k, x < 256 := fun x hx => by
  obtain ⟨i, _, rfl⟩ := List.mem_map.mp hx
  exact (letA_eq a b i).2
section
variable {s0 : SV} {d : Nat → Int} {n : Nat} {x5 x6 x7 : SV} {P : Nat} {x9 : SV} {back : Bool} {c : Nat} {A B : List Nat} {many : Nat} {ls : List Nat} {o s1 : Nat} {x18 x19 x20 x21 x22 x23 x24 x25 x26 x27 x28 x29 x30 x31 x32 x33 x34 : SV} {objs : List AO} {g : Cfg}
theorem seg19 {t : Nat} (h : H3 d n P back c A B many ls o s1 objs g) (ht : IsCrc objs t g (g.step B s1)) :
    wpSs (cT L3 8) (dropS 19 x_law) ⟨vA s0 d n x5 x6 x7 P x9 back c A B many ls o s1 (.ref t) x19 x20 x21 x22 x23 x24 x25 x26 x27 x28 x29 x30 x31 x32 x33 x34, objs⟩ SaysT := by
  have e : dropS 19 x_law = .cons (.ite (.cmp (.bin .BitXor (.attr (.var 18) 7) (.bin .BitAnd (.sub (.var 2) (.lit (.int 6))) (.var 4))) .NotEq (.call (.glob 37) (.cons (.bin .Add (.var 12) (.var 13)) (.cons (.bin .BitAnd (.bin .BitXor (.sub (.var 2) (.lit (.int 5))) (.sub (.var 2) (.lit (.int 6)))) (.var 4)) (.cons (.var 8) (.cons (.var 3) (.cons (.var 10) .nil))))))) (.cons
  (.ret (.lit (.bool false))) .nil) .nil) (dropS 20 x_law) := rfl
  rw [e]
  have tl := @seg20 s0 d n x5 x6 x7 P x9 back c A B many ls o s1 (.ref t) x19 x20 x21 x22 x23 x24 x25 x26 x27 x28 x29 x30 x31 x32 x33 x34 objs g h
  generalize dropS 20 x_law = r at tl
  have hn : n ≤ 32 ∧ 8 ≤ n ∧ 8 * (n / 8) = n := by have := h.ok.n; rw [h.gn] at this; omega
  have hP : bl P = n + 1 := by rw [← h.gP, ← h.gn]; exact h.ok.P
  have hAl := h.hA.1
  have hBl := h.hB.1
  have hAB : A.length + B.length ≤ lim := by simp only [lim]; omega
  have hst : g.step B s1 = g.step (A ++ B) g.init := by rw [step_append h.ok h.hA.2 h.hB.2 h.ok.init, h.A1]
  have hval : (g.step B s1 ^^^ lowN n (d 6)) = crcv back P n (A ++ B) (lowN n (Builtin.bitXor (d 5) (d 6))) := by
    rw [hst, lowN_xor, ← h.gi, ← h.gx, ← h.gP, ← h.gb, Nat.xor_comm g.init]
    unfold Cfg.step
    rw [Nat.xor_comm g.xor, Nat.xor_assoc, Nat.xor_self, Nat.xor_zero, h.gn]
  have hlx := lowN_lt n (Builtin.bitXor (d 5) (d 6))
  obtain ⟨f1, e1, -, -, -, -, -, -, -, -, e17⟩ := id ht
  conv => whnf
  rw [e1]
  conv => whnf
  rw [e17]
  walk_at "vg"
  rw [and_low, and_low, bitXor_nat, hval]
  refine ⟨⟨by omega, by omega, by omega, by rw [Int.toNat_natCast, Int.toNat_natCast]; exact hP, by omega, by rw [List.length_append]; omega, by rw [Int.toNat_natCast, Int.toNat_natCast]; exact hlx, fun x hx => (List.mem_append.mp hx).elim (h.hA.2 x) (h.hB.2 x)⟩, ?_⟩
  rw [Int.toNat_natCast, Int.toNat_natCast, Int.toNat_natCast]
  generalize crcv back P n (A ++ B) (lowN n (Builtin.bitXor (d 5) (d 6))) = z
  walk_at "vg"
  rw [show decide ((z : Int) ≠ (z : Int)) = false from decide_eq_false (fun f => f rfl)]
  conv => whnf
  exact tl
theorem seg15 (ok : g.Ok) (gn : g.n = n) (gP : g.P = P) (gb : g.back = back) (gi : g.init = lowN n (d 5)) (gx : g.xor = lowN n (d 6)) (odd : P % 2 = 1) (cr : IsCrc objs c g g.init) (hA : A.length ≤ 10 ∧ ∀ x ∈ A, x < 256) (hB : B.length ≤ 10 ∧ ∀ x ∈ B, x < 256)
    (lsl : ls.length = many) (ls8 : ∀ x ∈ ls, x < 256) (m1 : n ≤ many) (m2 : many ≤ n + 1) :
    wpSs (cT L3 8) (dropS 15 x_law) ⟨vC s0 d n x5 x6 x7 P x9 (.bool back) (.ref c) (.bytes A) (.bytes B) (.int many) (.lst (natsI ls)) .unb .unb, objs⟩ SaysT := by
  have e : dropS 15 x_law = .cons (.set 16 (.meth 0 (.var 11) (.cons (.var 12) .nil))) (.cons
  (.set 17 (.attr (.var 16) 7)) (.cons
  (.set 18 (.meth 1 (.var 16) .nil)) (.cons
  (.ex (.meth 2 (.var 18) (.cons (.var 13) .nil))) (dropS 19 x_law)))) := rfl
  rw [e]
  have tl := fun o s1 t objs h ht => @seg19 s0 d n x5 x6 x7 P x9 back c A B many ls o s1 .unb .unb .unb .unb .unb .unb .unb .unb .unb .unb .unb .unb .unb .unb .unb .unb objs g t h ht
  generalize dropS 19 x_law = r at tl
  have hn : n ≤ 32 ∧ 8 ≤ n ∧ 8 * (n / 8) = n := by have := ok.n; rw [gn] at this; omega
  have hoA : Octs A := ⟨by omega, hA.2⟩
  have hoB : Octs B := ⟨by omega, hB.2⟩
  have hs1 : g.step A g.init < 2 ^ n := by rw [← gn]; exact step_lt' ok hA.2 ok.init
  have hlc := cr.lt
  obtain ⟨f1, e1, -⟩ := id cr
  conv => whnf
  rw [e1]
  walk_at "vg"
  refine ⟨g, g.init, ok, hoA, cr, fun objs1 k1 c1 => ?_⟩
  change KeepsBut objs.length objs objs1 at k1
  change IsCrc objs1 objs.length g (g.step A g.init) at c1
  generalize hs : g.step A g.init = s1 at *
  have cr1 := cr.keep k1 (by omega)
  generalize hi : objs.length = i at *
  have hli := c1.lt
  obtain ⟨f2, e2, -, -, -, -, -, -, -, -, e27⟩ := id c1
  walk_at "vg"
  rw [e2]
  conv => whnf
  rw [e27]
  conv => whnf
  rw [e2]
  walk_at "vg"
  refine ⟨g, s1, ok, c1, fun objs2 k2 c2 => ?_⟩
  change KeepsBut objs1.length objs1 objs2 at k2
  change IsCrc objs2 objs1.length g s1 at c2
  have cr2 := cr1.keep k2 (by have := cr1.lt; omega)
  have o2 := c1.keep k2 (by omega)
  generalize hj : objs1.length = j at *
  obtain ⟨f3, e3, -⟩ := id c2
  walk_at "vg"
  rw [e3]
  walk_at "vg"
  refine ⟨g, s1, ok, by rw [gn]; exact hs1, hoB, c2, fun objs3 k3 c3 => ?_⟩
  have cr3 := cr2.keep k3 (by omega)
  have o3 := o2.keep k3 (by omega)
  walk_at "vg"
  exact tl _ _ _ _ { ok := ok, gn := gn, gP := gP, gb := gb, gi := gi, gx := gx, odd := odd, cr := cr3, one := o3, s1l := hs1, hA := hA, hB := hB, lsl := lsl, ls8 := ls8, m1 := m1, m2 := m2, A1 := hs } c3
theorem seg13 (ok : g.Ok) (gn : g.n = n) (gP : g.P = P) (gb : g.back = back) (gi : g.init = lowN n (d 5)) (gx : g.xor = lowN n (d 6)) (odd : P % 2 = 1) (cr : IsCrc objs c g g.init) (hA : A.length ≤ 10 ∧ ∀ x ∈ A, x < 256) (hB : B.length ≤ 10 ∧ ∀ x ∈ B, x < 256) :
    wpSs (cT L3 8) (dropS 13 x_law) ⟨vC s0 d n x5 x6 x7 P x9 (.bool back) (.ref c) (.bytes A) (.bytes B) .unb .unb .unb .unb, objs⟩ SaysT := by
  generalize hel : (X.bin .Add (.lit (.int 97)) (.bin .Mod (.bin .Add (.bin .RShift (.sub (.var 2) (.lit (.int 10))) (.bin .Mult (.lit (.int 5)) (.var 34))) (.bin .Mult (.var 34) (.sub (.var 2) (.lit (.int 11))))) (.lit (.int 26)))) = el
  have e : dropS 13 x_law = .cons (.set 14 (.bin .Add (.var 3) (.bin .Mod (.sub (.var 2) (.lit (.int 9))) (.lit (.int 2))))) (.cons
  (.set 15 (.comp false [((Str.ofString "i"), 34), ((Str.ofString "draw"), 2)] el [34] (.call (.glob 106) (.cons (.var 14) .nil)) .nop)) (dropS 15 x_law)) := by rw [← hel]; rfl
  rw [e]
  have tl := fun many ls lsl ls8 m1 m2 => @seg15 s0 d n x5 x6 x7 P x9 back c A B many ls objs g ok gn gP gb gi gx odd cr hA hB lsl ls8 m1 m2
  generalize dropS 15 x_law = r at tl
  have hn : n ≤ 32 ∧ 8 ≤ n ∧ 8 * (n / 8) = n := by have := ok.n; rw [gn] at this; omega
  obtain ⟨k9, hk9, e9⟩ := fmod_nat (d 9) (m := 2) (by omega)
  replace e9 : (n : Int) + (d 9).fmod 2 = ((n + k9 : Nat) : Int) := by rw [show (d 9).fmod 2 = (k9 : Int) from e9]; push_cast; rfl
  have tl := tl (n + k9) (letL (d 10) (d 11) (n + k9)) letL_len letL_lt (by omega) (by omega)
  have hmm : n + k9 ≤ 40 := by omega
  generalize n + k9 = many at *
  walk_at "vg"
  rw [e9]
  refine ⟨by rw [rng_len]; simp only [lim]; omega, ?_⟩
  refine comp_okW (fun j acc σ => ∃ y : SV, acc = natsI (letL (d 10) (d 11) j) ∧ σ = ⟨(vC s0 d n x5 x6 x7 P x9 (.bool back) (.ref c) (.bytes A) (.bytes B) (.int many) .unb .unb .unb).set 34 y, objs⟩) ⟨.unb, rfl, rfl⟩ (fun _ _ σ _ => rng_small (by omega)) ?_ ?_
  · rintro j x acc σ R hx ⟨y, rfl, rfl⟩ hnext
    obtain ⟨hj, rfl⟩ := rng_get hx
    have hm : IntMulOk (j : Int) (d 11) := IntMulOk.of_left (by rw [intBits_nat]; exact bl_le.mpr (Nat.lt_of_lt_of_le (show j < 2 ^ 6 by omega) (Nat.pow_le_pow_right (by decide) (by decide))))
    rw [← hel]
    walk_at "vg"
    rw [show (5 * (j : Int)).toNat = 5 * j by omega, (letA_eq (d 10) (d 11) j).1]
    refine hnext _ _ ⟨_, ?_, rfl⟩
    unfold letL natsI
    rw [List.range_succ, List.map_append, List.map_append]; rfl
  · rintro acc σ ⟨y, rfl, rfl⟩
    rw [rng_len]
    refine ⟨by unfold natsI; rw [List.length_map, letL_len]; simp only [lim]; omega, ?_⟩
    exact tl
end
end Vc
end
section
open PySem PySem.W PyProof.Rows PySem.Calls
set_option autoImplicit false
set_option maxRecDepth 100000
namespace Vc
local macro_rules | `(tactic| walk_at "vs") => `(tactic| first | exact True.intro | exact rfl | omega | (simp only [intBits_nat]; omega) | (simp only [lim, List.length]; omega) | exact IntMulOk.of_left (by decide) | exact Nat.le_of_ble_eq_true rfl)
local macro_rules | `(tactic| walk_at "vg") => `(tactic| ((repeat ((conv => whnf); (try dsimp only [List.set, setvs]); refine And.intro (by walk_at "vs") ?_)); (conv => whnf); (try dsimp only [List.set, setvs])))
theorem natsI_len (l : List Nat) : (natsI l).length = l.length := by unfold natsI; simp
section
variable {s0 : SV} {d : Nat → Int} {n : Nat} {x5 x6 x7 : SV} {P : Nat} {x9 : SV} {back : Bool} {c : Nat} {A B : List Nat} {objs : List AO} {g : Cfg}
theorem seg12 (ok : g.Ok) (gn : g.n = n) (gP : g.P = P) (gb : g.back = back) (gi : g.init = lowN n (d 5)) (gx : g.xor = lowN n (d 6)) (odd : P % 2 = 1) (cr : IsCrc objs c g g.init) (hA : A.length ≤ 10 ∧ ∀ x ∈ A, x < 256) :
    wpSs (cT L3 8) (dropS 12 x_law) ⟨vC s0 d n x5 x6 x7 P x9 (.bool back) (.ref c) (.bytes A) .unb .unb .unb .unb .unb, objs⟩ SaysT := by
  generalize hel : (X.bin .BitAnd (.bin .RShift (.sub (.var 2) (.lit (.int 8))) (.bin .Add (.bin .Mult (.lit (.int 8)) (.var 33)) (.lit (.int 2)))) (.lit (.int 255))) = el
  have e : dropS 12 x_law = .cons (.set 13 (.call (.glob 103) (.cons (.comp false [((Str.ofString "i"), 33), ((Str.ofString "draw"), 2)] el [33] (.call (.glob 106) (.cons (.bin .Mod (.sub (.var 2) (.lit (.int 8))) (.lit (.int 3))) .nil)) .nop) .nil))) (dropS 13 x_law) := by rw [← hel]; rfl
  rw [e]
  have tl := fun B hB => @seg13 s0 d n x5 x6 x7 P x9 back c A B objs g ok gn gP gb gi gx odd cr hA hB
  generalize dropS 13 x_law = r at tl
  obtain ⟨k8, hk8, e8⟩ := fmod_nat (d 8) (m := 3) (by omega)
  have tl := tl (octA (d 8) k8) ⟨by rw [octA_len]; omega, octA_lt⟩
  walk_at "vg"
  rw [show (d 8).fmod 3 = (k8 : Int) from e8]
  refine ⟨by rw [rng_len]; simp only [lim]; omega, ?_⟩
  refine comp_okW (fun j acc σ => ∃ y : SV, acc = natsI (octA (d 8) j) ∧ σ = ⟨(vC s0 d n x5 x6 x7 P x9 (.bool back) (.ref c) (.bytes A) .unb .unb .unb .unb .unb).set 33 y, objs⟩) ⟨.unb, rfl, rfl⟩ (fun _ _ σ _ => rng_small (by omega)) ?_ ?_
  · rintro j x acc σ R hx ⟨y, rfl, rfl⟩ hnext
    obtain ⟨hj, rfl⟩ := rng_get hx
    rw [← hel]
    walk_at "vg"
    rw [show (255 : Int) = 2 ^ 8 - 1 from rfl, and_low, show (8 * (j : Int) + 2).toNat = 8 * j + 2 by omega]
    refine hnext _ _ ⟨_, ?_, rfl⟩
    unfold octA natsI
    rw [List.range_succ, List.map_append, List.map_append]; rfl
  · rintro acc σ ⟨y, rfl, rfl⟩
    rw [rng_len]
    refine ⟨by rw [natsI_len, octA_len]; simp only [lim]; omega, ?_⟩
    rw [if_neg (by decide)]
    dsimp only
    unfold wpEs
    refine bytesL_ok (c := cT L3 8) (l := octA (d 8) k8) octA_lt (by rw [octA_len]; simp only [lim]; omega) ?_
    exact tl
theorem seg11 (ok : g.Ok) (gn : g.n = n) (gP : g.P = P) (gb : g.back = back) (gi : g.init = lowN n (d 5)) (gx : g.xor = lowN n (d 6)) (odd : P % 2 = 1) (cr : IsCrc objs c g g.init) :
    wpSs (cT L3 8) (dropS 11 x_law) ⟨vC s0 d n x5 x6 x7 P x9 (.bool back) (.ref c) .unb .unb .unb .unb .unb .unb, objs⟩ SaysT := by
  generalize hel : (X.bin .BitAnd (.bin .RShift (.sub (.var 2) (.lit (.int 7))) (.bin .Add (.bin .Mult (.lit (.int 8)) (.var 32)) (.lit (.int 2)))) (.lit (.int 255))) = el
  have e : dropS 11 x_law = .cons (.set 12 (.call (.glob 103) (.cons (.comp false [((Str.ofString "i"), 32), ((Str.ofString "draw"), 2)] el [32] (.call (.glob 106) (.cons (.bin .Add (.lit (.int 1)) (.bin .Mod (.sub (.var 2) (.lit (.int 7))) (.lit (.int 2)))) .nil)) .nop) .nil))) (dropS 12 x_law) := by rw [← hel]; rfl
  rw [e]
  have tl := fun A hA => @seg12 s0 d n x5 x6 x7 P x9 back c A objs g ok gn gP gb gi gx odd cr hA
  generalize dropS 12 x_law = r at tl
  obtain ⟨k7, hk7, e7⟩ := fmod_nat (d 7) (m := 2) (by omega)
  replace e7 : (1 : Int) + (d 7).fmod 2 = ((1 + k7 : Nat) : Int) := by rw [show (d 7).fmod 2 = (k7 : Int) from e7]; push_cast; rfl
  have tl := tl (octA (d 7) (1 + k7)) ⟨by rw [octA_len]; omega, octA_lt⟩
  have hkk : 1 + k7 ≤ 2 := by omega
  generalize 1 + k7 = kk at *
  walk_at "vg"
  rw [e7]
  refine ⟨by rw [rng_len]; simp only [lim]; omega, ?_⟩
  refine comp_okW (fun j acc σ => ∃ y : SV, acc = natsI (octA (d 7) j) ∧ σ = ⟨(vC s0 d n x5 x6 x7 P x9 (.bool back) (.ref c) .unb .unb .unb .unb .unb .unb).set 32 y, objs⟩) ⟨.unb, rfl, rfl⟩ (fun _ _ σ _ => rng_small (by omega)) ?_ ?_
  · rintro j x acc σ R hx ⟨y, rfl, rfl⟩ hnext
    obtain ⟨hj, rfl⟩ := rng_get hx
    rw [← hel]
    walk_at "vg"
    rw [show (255 : Int) = 2 ^ 8 - 1 from rfl, and_low, show (8 * (j : Int) + 2).toNat = 8 * j + 2 by omega]
    refine hnext _ _ ⟨_, ?_, rfl⟩
    unfold octA natsI
    rw [List.range_succ, List.map_append, List.map_append]; rfl
  · rintro acc σ ⟨y, rfl, rfl⟩
    rw [rng_len]
    refine ⟨by rw [natsI_len, octA_len]; simp only [lim]; omega, ?_⟩
    rw [if_neg (by decide)]
    dsimp only
    unfold wpEs
    refine bytesL_ok (c := cT L3 8) (l := octA (d 7) kk) octA_lt (by rw [octA_len]; simp only [lim]; omega) ?_
    exact tl
theorem seg9 (hn : n = 8 ∨ n = 16 ∨ n = 24 ∨ n = 32) (hP : bl P = n + 1) (odd : P % 2 = 1) :
    wpSs (cT L3 8) (dropS 9 x_law) ⟨vC s0 d n x5 x6 x7 P x9 .unb .unb .unb .unb .unb .unb .unb .unb, []⟩ SaysT := by
  have e : dropS 9 x_law = .cons (.set 10 (.cmp (.bin .Mod (.sub (.var 2) (.lit (.int 4))) (.lit (.int 2))) .Eq (.lit (.int 1)))) (.cons
  (.set 11 (.call (.glob 110) (.cons (.var 8) (.cons (.sub (.var 2) (.lit (.int 5))) (.cons (.var 10) (.cons (.sub (.var 2) (.lit (.int 6))) .nil)))))) (dropS 11 x_law)) := rfl
  rw [e]
  have hg : ∀ back, Cfg.Ok ⟨P, n, back, lowN n (d 5), lowN n (d 6)⟩ := fun back => ⟨hn, hP, lowN_lt _ _, lowN_lt _ _⟩
  have tl := fun back c objs cr => @seg11 s0 d n x5 x6 x7 P x9 back c objs ⟨P, n, back, lowN n (d 5), lowN n (d 6)⟩ (hg back) rfl rfl rfl rfl rfl odd cr
  generalize dropS 11 x_law = r at tl
  walk_at "vg"
  generalize decide ((d 4).fmod 2 = 1) = back
  refine ⟨n, ⟨by omega, ⟨by omega, by rw [Int.toNat_natCast]; exact hP⟩⟩, fun objs k1 c1 => ?_⟩
  rw [Int.toNat_natCast] at c1
  walk_at "vg"
  exact tl _ _ _ c1
end
theorem ctimes_odd {a b : Nat} (ha : a % 2 = 1) (hb : b % 2 = 1) : ctimes a b % 2 = 1 := by
  rw [ctimes_half, if_pos hb, Nat.xor_mod_two_eq_one]
  omega
theorem poly_ok (r : Nat) (a : Int) : bl (2 ^ r ||| lowN r a ||| 1) = r + 1 ∧ (2 ^ r ||| lowN r a ||| 1) % 2 = 1 := by
  have h1 : 2 ^ r ≤ (2 ^ r ||| lowN r a ||| 1) := by
    rw [Nat.or_assoc]
    exact Nat.left_le_or
  have h2 : (2 ^ r ||| lowN r a ||| 1) < 2 ^ (r + 1) := by
    refine Nat.or_lt_two_pow (Nat.or_lt_two_pow (Nat.pow_lt_pow_right (by decide) (by omega)) (Nat.lt_of_lt_of_le (lowN_lt r a) (Nat.pow_le_pow_right (by decide) (by omega)))) ?_
    exact Nat.one_lt_two_pow (by omega)
  refine ⟨?_, ?_⟩
  · have a1 := bl_le.mpr h2
    have a2 := lt_bl.mpr h1
    omega
  · have : (2 ^ r ||| lowN r a ||| 1).testBit 0 = true := by rw [Nat.testBit_or]; simp
    rw [Nat.testBit_zero] at this
    simpa using this
section
variable {s0 : SV} {d : Nat → Int} {n : Nat}
def vD (s0 : SV) (d : Nat → Int) (x3 x4 x5 : SV) : List SV :=
  [s0, masksV, .lst (drawL d), x3, x4, x5, .unb, .unb, .unb, .unb, .unb, .unb, .unb, .unb, .unb, .unb, .unb, .unb, .unb, .unb, .unb, .unb, .unb, .unb, .unb, .unb, .unb, .unb, .unb, .unb, .unb, .unb, .unb, .unb, .unb]
theorem seg5 {of : Nat} (hn : n = 8 ∨ n = 16 ∨ n = 24 ∨ n = 32) (ho : of ≤ 8) :
    wpSs (cT L3 8) (dropS 5 x_law) ⟨vD s0 d (.int n) (.int (2 ^ n - 1)) (.int of), []⟩ SaysT := by
  have e : dropS 5 x_law = .cons (.set 6 (.bin .BitOr (.bin .BitOr (.bin .LShift (.lit (.int 1)) (.bin .FloorDiv (.var 3) (.lit (.int 8)))) (.bin .BitAnd (.sub (.var 2) (.lit (.int 3))) (.bin .Sub (.bin .LShift (.lit (.int 1)) (.bin .FloorDiv (.var 3) (.lit (.int 8)))) (.lit (.int 1))))) (.lit (.int 1)))) (.cons
  (.set 7 (.bin .Sub (.var 3) (.bin .Mult (.var 5) (.bin .FloorDiv (.var 3) (.lit (.int 8)))))) (.cons
  (.set 8 (.bin .BitOr (.bin .BitOr (.bin .LShift (.lit (.int 1)) (.var 7)) (.bin .BitAnd (.sub (.var 2) (.lit (.int 2))) (.bin .Sub (.bin .LShift (.lit (.int 1)) (.var 7)) (.lit (.int 1))))) (.lit (.int 1)))) (.cons
  (.fr [9] (.call (.glob 106) (.cons (.var 5) .nil)) (.cons
  (.set 8 (.call (.glob 32) (.cons (.var 8) (.cons (.var 6) .nil)))) .nil)) (dropS 9 x_law)))) := rfl
  rw [e]
  have tl := fun x5 x6 x7 P x9 hP odd => @seg9 s0 d n x5 x6 x7 P x9 hn hP odd
  generalize dropS 9 x_law = r at tl
  have i1 : Builtin.Int.intBits 1 = 1 := rfl
  have e8 : (n : Int).fdiv 8 = ((n / 8 : Nat) : Int) := by
    rw [Int.fdiv_eq_ediv_of_nonneg _ (by omega)]; rfl
  have hw8 : 8 * (n / 8) = n := by omega
  have hwl : n / 8 ≤ 4 := by omega
  generalize hwd : n / 8 = wd at *
  have hmul : IntMulOk (of : Int) (wd : Int) := IntMulOk.of_left (by rw [intBits_nat]; exact bl_le.mpr (Nat.lt_of_lt_of_le (show of < 2 ^ 6 by omega) (Nat.pow_le_pow_right (by decide) (by decide))))
  have hle : of * wd ≤ n := by
    rw [← hw8]; exact Nat.mul_le_mul_right _ ho
  have er : (n : Int) - (of : Int) * (wd : Int) = ((n - of * wd : Nat) : Int) := by
    rw [Int.ofNat_sub hle]; push_cast; rfl
  have hpo : ∀ (k : Nat) (a : Int), Builtin.bitOr (Builtin.bitOr ((1 : Int) * 2 ^ ((k : Nat) : Int).toNat) (lowN k a : Int)) 1 = ((2 ^ k ||| lowN k a ||| 1 : Nat) : Int) := fun k a => by
    rw [one_nat, shl_nat, bitOr_nat, bitOr_nat, Nat.one_mul]
  generalize hrest : n - of * wd = rest at *
  have hrl : rest + of * wd = n := by omega
  obtain ⟨bp, op⟩ := poly_ok wd (d 3)
  obtain ⟨br, orr⟩ := poly_ok rest (d 2)
  walk_at "vg"
  rw [e8]
  refine ⟨hmul, ?_⟩
  conv => whnf
  rw [er, mask_low, hpo]
  have bpl : bl (2 ^ wd ||| lowN wd (d 3) ||| 1) ≤ 5 := by omega
  generalize (2 ^ wd ||| lowN wd (d 3) ||| 1) = part at *
  walk_at "vg"
  rw [mask_low, hpo]
  generalize (2 ^ rest ||| lowN rest (d 2) ||| 1) = P0 at *
  refine ⟨by rw [rng_len]; simp only [lim]; omega, ?_⟩
  refine for_ok (fun i σ => ∃ Q, ∃ y : SV, bl Q = rest + 1 + i * wd ∧ Q % 2 = 1 ∧ σ = ⟨vC s0 d n (.int of) (.int part) (.int rest) Q y .unb .unb .unb .unb .unb .unb .unb .unb, []⟩) ⟨P0, .unb, by rw [br, Nat.zero_mul], orr, rfl⟩ (fun _ σ _ => rng_small (by omega)) ?_ ?_
  · rintro i x σ R hx ⟨Q, y, bQ, oQ, rfl⟩ hnext _ _ _
    obtain ⟨hi, rfl⟩ := rng_get hx
    have him : i * wd ≤ 8 * wd := Nat.mul_le_mul_right _ (by omega)
    walk_at "vg"
    refine ⟨⟨by omega, by omega, by rw [Int.toNat_natCast, Int.toNat_natCast]; omega⟩, ?_⟩
    rw [Int.toNat_natCast, Int.toNat_natCast]
    walk_at "vg"
    refine hnext _ ⟨ctimes Q part, .int i, ?_, ctimes_odd oQ op, rfl⟩
    have := (ctimes_ne (a := Q) (b := part) (by omega) (by omega)).2
    rw [Nat.succ_mul]
    omega
  · rintro σ ⟨Q, y, bQ, oQ, rfl⟩
    rw [rng_len] at bQ
    exact tl _ _ _ _ _ (by omega) oQ
theorem seg4 (hn : n = 8 ∨ n = 16 ∨ n = 24 ∨ n = 32) :
    wpSs (cT L3 8) (dropS 4 x_law) ⟨vD s0 d (.int n) (.int (2 ^ n - 1)) .unb, []⟩ SaysT := by
  have e : dropS 4 x_law = .cons (.set 5 (.sub (.tup (.cons (.lit (.int 0)) (.cons (.lit (.int 2)) (.cons (.lit (.int 3)) (.cons (.lit (.int 4)) (.cons (.lit (.int 8)) .nil)))))) (.bin .Mod (.sub (.var 2) (.lit (.int 1))) (.ife (.cmp (.var 3) .Lt (.lit (.int 32))) (.lit (.int 5)) (.lit (.int 2)))))) (dropS 5 x_law) := rfl
  rw [e]
  have tl := fun of ho => @seg5 s0 d n of hn ho
  generalize dropS 5 x_law = r at tl
  walk_at "vg"
  by_cases h32 : n < 32
  · rw [decide_eq_true (show (n : Int) < 32 by omega)]
    obtain ⟨k, hk, ek⟩ := fmod_nat (d 1) (m := 5) (by omega)
    walk_at "vg"
    rw [show (d 1).fmod 5 = (k : Int) from ek]
    refine ⟨by omega, ?_⟩
    have : k = 0 ∨ k = 1 ∨ k = 2 ∨ k = 3 ∨ k = 4 := by omega
    rcases this with rfl | rfl | rfl | rfl | rfl
    · conv => whnf
      exact tl 0 (by omega)
    · conv => whnf
      exact tl 2 (by omega)
    · conv => whnf
      exact tl 3 (by omega)
    · conv => whnf
      exact tl 4 (by omega)
    · conv => whnf
      exact tl 8 (by omega)
  · rw [decide_eq_false (show ¬ (n : Int) < 32 by omega)]
    obtain ⟨k, hk, ek⟩ := fmod_nat (d 1) (m := 2) (by omega)
    walk_at "vg"
    rw [show (d 1).fmod 2 = (k : Int) from ek]
    refine ⟨by omega, ?_⟩
    have : k = 0 ∨ k = 1 := by omega
    rcases this with rfl | rfl
    · conv => whnf
      exact tl 0 (by omega)
    · conv => whnf
      exact tl 2 (by omega)
theorem seg2 : wpSs (cT L3 8) (dropS 2 x_law) ⟨vD s0 d .unb .unb .unb, []⟩ SaysT := by
  have e : dropS 2 x_law = .cons (.set 3 (.sub (.tup (.cons (.lit (.int 8)) (.cons (.lit (.int 16)) (.cons (.lit (.int 24)) (.cons (.lit (.int 32)) .nil))))) (.bin .Mod (.sub (.var 2) (.lit (.int 0))) (.lit (.int 4))))) (.cons
  (.set 4 (.bin .Sub (.bin .LShift (.lit (.int 1)) (.var 3)) (.lit (.int 1)))) (dropS 4 x_law)) := rfl
  rw [e]
  have tl := fun n hn => @seg4 s0 d n hn
  generalize dropS 4 x_law = r at tl
  have i1 : Builtin.Int.intBits 1 = 1 := rfl
  obtain ⟨k, hk, ek⟩ := fmod_nat (d 0) (m := 4) (by omega)
  walk_at "vg"
  rw [show (d 0).fmod 4 = (k : Int) from ek]
  refine ⟨by omega, ?_⟩
  have : k = 0 ∨ k = 1 ∨ k = 2 ∨ k = 3 := by omega
  rcases this with rfl | rfl | rfl | rfl
  · walk_at "vg"
    exact tl 8 (by omega)
  · walk_at "vg"
    exact tl 16 (by omega)
  · walk_at "vg"
    exact tl 24 (by omega)
  · walk_at "vg"
    exact tl 32 (by omega)
def drawD (ns : List Int) (i : Nat) : Int := if h : i < ns.length then ns[i] else 11 * i + 3
theorem vl_law3 {ns : List Int} (hl : ns.length ≤ 63) : wpSs (cT L3 8) x_law ⟨vars0 [.lst (ns.map SV.int)] nv_law, []⟩ SaysT := by
  generalize hel : (X.ife (.cmp (.var 31) .Lt (.call (.glob 100) (.cons (.var 0) .nil))) (.sub (.var 0) (.var 31)) (.bin .Add (.bin .Mult (.lit (.int 11)) (.var 31)) (.lit (.int 3)))) = el
  have e : x_law = .cons (.set 1 (.glob 120)) (.cons
  (.set 2 (.comp false [((Str.ofString "i"), 31), ((Str.ofString "script"), 0)] el [31] (.call (.glob 106) (.cons (.lit (.int 17)) .nil)) .nop)) (dropS 2 x_law)) := by rw [← hel]; rfl
  rw [e]
  have tl := fun s0 d => @seg2 s0 d
  generalize dropS 2 x_law = r at tl
  have hll : (ns.map SV.int).length = ns.length := by simp
  have hget : ∀ i (h : i < ns.length), (ns.map SV.int)[i]? = some (.int (drawD ns i)) := fun i h => by
    rw [List.getElem?_map, List.getElem?_eq_getElem h]
    unfold drawD
    rw [dif_pos h]; rfl
  have hno : ∀ i, ¬ i < ns.length → drawD ns i = 11 * i + 3 := fun i h => by unfold drawD; rw [dif_neg h]
  generalize ns.map SV.int = l at hll hget
  generalize drawD ns = d at hget hno
  conv => whnf
  refine ⟨by show 17 ≤ lim; decide, ?_⟩
  refine comp_okW (fun j acc σ => ∃ y38 : SV, acc = ((List.range j).map fun i => SV.int (d i)) ∧ σ = ⟨((vars0 [SV.lst l] nv_law).set 1 masksV).set 31 y38, []⟩) ⟨.unb, rfl, rfl⟩ (fun _ _ σ _ => rfl) ?_ ?_
  · rintro j x acc σ R hxj ⟨y38, rfl, rfl⟩ hnext
    obtain ⟨hj, rfl⟩ := rng_get (k := 17) hxj
    have hn : ∀ y38, R (.int (d j)) ⟨((vars0 [SV.lst l] nv_law).set 1 masksV).set 31 y38, []⟩ := fun y38 => hnext _ _ ⟨y38, by rw [List.range_succ, List.map_append]; rfl, rfl⟩
    rw [← hel]
    walk_at "vg"
    refine drec (fun q => ?_) (fun q => ?_)
    · have q' : j < ns.length := by have := of_decide_eq_true q; omega
      have hi : idx l.length (j : Nat) = some j := by
        unfold idx; rw [if_pos (by omega), if_pos (by omega), Int.toNat_natCast]
      walk_at "vg"
      rw [hi]
      dsimp only
      rw [hget j q']
      exact hn _
    · have q' : ¬ j < ns.length := fun h => q (decide_eq_true (by omega))
      walk_at "vg"
      have := hn (.int j)
      rw [hno j q'] at this
      exact this
  · rintro acc σ ⟨y38, rfl, rfl⟩
    refine ⟨by show 17 ≤ lim; decide, ?_⟩
    exact tl (.lst l) d
end
end Vc
end
section
open PySem PySem.W PyProof.Rows PySem.Calls
set_option maxRecDepth 10000
set_option autoImplicit false
set_option linter.unusedVariables false
set_option linter.unusedSectionVars false
namespace Vc
theorem entry_reduce : entryFor table "_functools.reduce" = some Builtin.«_functools.reduce» := entryFor_of_tree (by kernel_rfl)
theorem entry_reduce_loop : entryFor table "_functools.reduce.loop" = some Builtin.«_functools.reduce.loop» := entryFor_of_tree (by kernel_rfl)
theorem plain_reduce : plainId "_functools.reduce" = true := by decide +kernel
theorem plain_reduce_loop : plainId "_functools.reduce.loop" = true := by decide +kernel
theorem check_reduce (a b c : Value) : checkBuiltinCall "_functools.reduce" ⟨[a, b, c], []⟩ = pure () := by kernel_rfl
theorem some_reduce (a b c : Value) : someArgs "reduce" 2 3 ⟨[a, b, c], []⟩ = pure [a, b, c] := by kernel_rfl

def redW (F : List SV → List AO → (SV → List AO → Prop) → Prop) : List SV → SV → List AO → (SV → List AO → Prop) → Prop
  | [], r, objs, K => K r objs
  | x :: l, r, objs, K => F [r, x] objs fun r' objs' => redW F l r' objs' K

section
variable {g : G} {N : Nms} {c : C} {ℓ : Nat} {os : List Addr} {ad ad' ad₀ : AD} {s s' s₀ : Shared} {A : Around} {E : Value → Shared → Prop} {objs objs' : List AO} {K : SV → List AO → Prop}

theorem InvH.dropMod {b : Addr} (I : InvH g (b :: os) ad objs s) (hb : b ∉ os) (m : ∀ a o, a ≠ b → s.heap.get? a = some o → s'.heap.get? a = some o) : InvH g os ad objs s' := by
  have n1 := I.ap1 b (by simp)
  have n2 : b ∉ g.tabs := fun q => (I.ap2 b q).1 (by simp)
  have n0 : g.h₀.get? b = none := I.fresh₀ b (mem_mt.mpr (.inl (by simp)))
  have st : Stays g (b :: os) ad s.heap os ad s'.heap := Stays.dropMod m
  refine ⟨fun a o e => m a o (fun q => by rw [q, n0] at e; cases e) (I.base a o e), fun a ha => I.fresh₀ a ?_, fun a ha => ?_, I.nodup, fun a ha => I.ap1 a (by simp [ha]), fun a ha => ⟨fun q => (I.ap2 a ha).1 (by simp [q]), (I.ap2 a ha).2⟩, fun a ha => ?_, I.objs.1, fun j o p e1 e2 => ?_⟩
  · rw [mem_mt] at ha ⊢
    exact ha.imp (fun x => by simp [x]) id
  · obtain ⟨o, e⟩ := I.live a (by simp [ha])
    exact ⟨o, m a o (fun q => hb (q ▸ ha)) e⟩
  · obtain ⟨o, e, t⟩ := I.tabs a ha
    exact ⟨o, m a o (fun q => n2 (q ▸ ha)) e, t.stays st⟩
  · refine (I.objs.2 j o p e1 e2).stays st fun a ha o' e => m a o' (fun q => n1 ?_) e
    subst q
    simp only [List.mem_cons, Option.mem_toList] at ha
    rcases ha with rfl | ha
    · exact adr_of_get e2
    · exact adr_of_get2 e2 ha

abbrev tup2 (a b : Value) : Obj := { cls := .type "tuple", data := .seq #[a, b] }
theorem red_loop {F : List SV → List AO → (SV → List AO → Prop) → Prop} {f : SV} (hF : ∀ args objs K, F args objs K → CallOk g ℓ f args objs K) {l : List SV} {fv lv : Value} {it pr ow : Addr} {oo : Obj} {b c' : Value} {R : Result → Shared → Prop}
    (hA : AOk A (ℓ + 1)) (hoo : oo.data = .seq #[fv, b, c'] 0) (hn : it ∉ pr :: ow :: os) (hpi : pr ≠ it) (hpo : pr ≠ ow)
    (post : ∀ v r objs' ad' s', K r objs' → Rep g (pr :: ow :: os) ad' s'.heap r v → InvH g (pr :: ow :: os) ad' objs' s' → Step g [it, pr] ad₀ s₀ ad' s' → R (.ok (.ret v)) s') {objs₀ : List AO} (I₀ : InvH g (it :: pr :: ow :: os) ad₀ objs₀ s₀) :
    ∀ (rest : List SV) (k : Nat) (objs : List AO) (ad : AD) (s : Shared) (r : SV) (rv : Value), l = l.take k ++ rest → k + rest.length = l.length → redW F rest r objs K → InvH g (it :: pr :: ow :: os) ad objs s →
      Rep g (it :: pr :: ow :: os) ad s.heap f fv → Rep g (it :: pr :: ow :: os) ad s.heap (.lst l) lv → Rep g (it :: pr :: ow :: os) ad s.heap r rv → ItAt (.lst l) lv it k s.heap → (∃ a b, s.heap.get? pr = some (tup2 a b)) →
      s.heap.get? ow = some oo → Step g [it, pr] ad₀ s₀ ad s →
      codeAny (model g.prog g.w) A (.builtin "_functools.reduce.loop" ⟨[.ref pr, .ref it, .ref ow, rv], []⟩) R s
  | rest, k, objs, ad, s, r, rv, h1, h2, w, I, rf, rl, rr, hit, ⟨pa, pb, hp⟩, how, S => by
    refine codeAny_builtin entry_reduce_loop ?_
    rw [Around.under_plainId plain_reduce_loop]
    have hA1 : AOk A.in1 ℓ := ⟨hA.1, by have := hA.2.1; show A.depth + ℓ < 900; omega, by have := hA.2.2; show A.units + 1 + 20 * ℓ < 9000; omega⟩
    unfold Builtin.«_functools.reduce.loop»
    refine wpAny_bind (wpAny_seqItems how hoo ?_)
    have hmem : ∀ a, a ∈ [it, pr] → a ∈ it :: pr :: ow :: os := fun a ha => by
      simp at ha; rcases ha with rfl | rfl <;> simp
    cases rest with
    | nil =>
      have ek : k = l.length := by simpa using h2
      subst ek
      refine wpAny_bind (iter_end (objs := objs) I hA1.1 rl rfl hit fun s3 q r3 => ?_)
      refine wpAny_pure ?_
      have I3 := I.dropMod (b := it) (s' := s3) hn q
      refine post rv r objs ad s3 w (rr.stays (Stays.dropMod q)) I3 ?_
      exact ⟨S.ext, fun a o h1 h2 h3 e => q a o (fun z => h1 (by simp [z])) (S.keep a o h1 h2 h3 e), r3.1.trans S.rest.1, r3.2.trans S.rest.2⟩
    | cons z rest =>
      have hk1 : k < l.length := by simp at h2; omega
      have hz : l[k]? = some z := by
        have hkl : (l.take k).length = k := by simp; omega
        have e : l[k]? = (l.take k ++ z :: rest)[k]? := congrArg (fun q : List SV => q[k]?) h1
        rw [e, List.getElem?_append_right (by omega), hkl]; simp
      refine wpAny_bind (iter_next (objs := objs) I (by simp) rl rfl hit hz fun v s2 rz it2 m2 => ?_)
      have I2 := m2.inv I (by simp)
      have z2 : Stays g (it :: pr :: ow :: os) ad s.heap (it :: pr :: ow :: os) ad s2.heap := m2.step.stays (by simp)
      have hp2 := m2.keep _ _ hpi hp
      refine wpAny_bind (wpAny_seqItems hp2 rfl ?_)
      refine wpAny_bind (wpAny_updateSeq_pair hp2 fun h3 hp3 sb3 => ?_)
      have m3 : ModI pr s2 { s2 with heap := h3 } := mod_same' ⟨_, hp3⟩ sb3
      have I3 := m3.inv I2 (by simp)
      have z3 : Stays g (it :: pr :: ow :: os) ad s2.heap (it :: pr :: ow :: os) ad h3 := m3.step.stays (by simp)
      refine wpAny_bind (wpAny_letGo ?_)
      have hp3' : (Shared.heap { s2 with heap := h3 }).get? pr = some (tup2 rv pb) := hp3
      refine wpAny_bind (wpAny_updateSeq_pair hp3' fun h4 hp4 sb4 => ?_)
      have m4 : ModI pr { s2 with heap := h3 } { s2 with heap := h4 } := mod_same' (s := { s2 with heap := h3 }) ⟨_, hp4⟩ sb4
      have I4 := m4.inv I3 (by simp)
      have z4 : Stays g (it :: pr :: ow :: os) ad h3 (it :: pr :: ow :: os) ad h4 := m4.step.stays (by simp)
      refine wpAny_bind (wpAny_letGo ?_)
      have S4 : Step g [it, pr] ad₀ s₀ ad { s2 with heap := h4 } := by
        have a2 := Step.trans I₀ hmem I S ((m2.step (g := g) (ad := ad)).weaken (own' := [it, pr]) (by simp))
        have a3 := Step.trans I₀ hmem I2 a2 ((m3.step (g := g) (ad := ad)).weaken (own' := [it, pr]) (by simp))
        exact Step.trans I₀ hmem I3 a3 ((m4.step (g := g) (ad := ad)).weaken (own' := [it, pr]) (by simp))
      obtain ⟨kk, call⟩ := hF _ _ _ w A.in1 (it :: pr :: ow :: os) ad { s2 with heap := h4 } fv [rv, v] hA1 I4 (((rf.stays z2).stays z3).stays z4) (RepL.cons (((rr.stays z2).stays z3).stays z4) (RepL.one ((rz.stays z3).stays z4)))
      refine wpAny_bind (call _ _ fun v' r' objs' ad' s' k' rv' H' S' => ?_)
      refine wpAny_pure ⟨plainId_quiet plain_reduce_loop _, ?_⟩
      have z5 : Stays g (it :: pr :: ow :: os) ad h4 (it :: pr :: ow :: os) ad' s'.heap := S'.stays (by simp)
      have n4 : ∀ a ∈ it :: pr :: ow :: os, a ∉ adr ad ∧ a ∉ g.tabs := fun a ha => ⟨I.ap1 a ha, fun q => (I.ap2 a q).1 ha⟩
      have keep5 : ∀ a ∈ it :: pr :: ow :: os, ∀ o, h4.get? a = some o → s'.heap.get? a = some o := fun a ha o e => S'.keep a o (by simp) (n4 a ha).1 (n4 a ha).2 e
      refine red_loop hF hA hoo hn hpi hpo post I₀ rest (k + 1) objs' ad' s' r' v' ?_ (by simp at h2; omega) k' H' ((((rf.stays z2).stays z3).stays z4).stays z5) ((((rl.stays z2).stays z3).stays z4).stays z5) rv' ?_ ?_ ?_ (Step.trans I₀ hmem I4 S4 (S'.weaken (by simp)))
      · have : l.take (k + 1) = l.take k ++ [z] := by
          rw [List.take_add_one, hz]; rfl
        rw [this, List.append_assoc]; exact h1
      · refine it2.keep fun o e => keep5 it (by simp) o ?_
        have e3 : h3.get? it = some o := (sb3.2 it hpi.symm).trans e
        exact (sb4.2 it hpi.symm).trans e3
      · exact ⟨rv, v, keep5 pr (by simp) _ hp4⟩
      · refine keep5 ow (by simp) oo ?_
        have how2 := m2.keep ow oo (fun e => hn (by simp [e])) how
        exact (sb4.2 ow hpo.symm).trans ((sb3.2 ow hpo.symm).trans how2)

theorem none_of_mono (m : Mono s s') {a : Addr} (h : s'.heap.get? a = none) : s.heap.get? a = none := by
  cases e : s.heap.get? a with
  | none => rfl
  | some o => rw [m.keep a o e] at h; cases h

/-- reduce(f, l, r) -/
theorem reduce_ok {F : List SV → List AO → (SV → List AO → Prop) → Prop} {f : SV} (hF : ∀ args objs K, F args objs K → CallOk g ℓ f args objs K) {l : List SV} {r0 : SV} (w : redW F l r0 objs K) : CallOk g (ℓ + 1) (.bi .reduce) [f, .lst l, r0] objs K := by
  intro A os ad s fv vals hA I rf r
  have : fv = .builtin "_functools.reduce" := rf
  subst this
  obtain ⟨v1, v2, v3, rfl, r1, r2, r3⟩ := r.three_inv
  have hA1 : AOk A.in1 ℓ := ⟨hA.1, by have := hA.2.1; show A.depth + ℓ < 900; omega, by have := hA.2.2; show A.units + 1 + 20 * ℓ < 9000; omega⟩
  refine ⟨keep_builtin _ _, fun Q E post => wpAny_call (codeAny_call_builtin plain_reduce entry_reduce ?_)⟩
  rw [check_reduce]
  refine wpAny_pure ?_
  unfold Builtin.«_functools.reduce»
  refine wpAny_bind ?_
  rw [some_reduce]
  refine wpAny_pure (wpAny_bind (wpAny_tryCatch ?_))
  refine iter_start (l := l) I r2 rfl trivial fun it s1 m1 hf1 hl1 it1 => ?_
  refine wpAny_bind (wpAny_holding (wpAny_newTuple ?_))
  refine wpAny_bind (wpAny_holding (wpAny_newTuple ?_))
  have m2 : Mono s1 { s1 with heap := s1.heap.push (tup2 (rawInt 0) (rawInt 0)) } := Mono.push' _
  generalize hpr : s1.heap.objs.size = pr
  have hpr1 : s1.heap.get? pr = none := by rw [← hpr]; exact Heap.get?_none_of_le (Nat.le_refl _)
  have hpr2 : (s1.heap.push (tup2 (rawInt 0) (rawInt 0))).get? pr = some (tup2 (rawInt 0) (rawInt 0)) := by rw [← hpr]; exact Heap.get?_push_size _ rfl
  generalize hs2 : ({ s1 with heap := s1.heap.push (tup2 (rawInt 0) (rawInt 0)) } : Shared) = s2 at m2
  have hh2 : s1.heap.push (tup2 (rawInt 0) (rawInt 0)) = s2.heap := by rw [← hs2]
  rw [hh2] at hpr2
  have m3 : Mono s2 { s2 with heap := s2.heap.push { cls := .type "tuple", data := .seq #[v1, v2, v3] } } := Mono.push' _
  generalize how : s2.heap.objs.size = ow
  have how2 : s2.heap.get? ow = none := by rw [← how]; exact Heap.get?_none_of_le (Nat.le_refl _)
  have how3 : (s2.heap.push { cls := .type "tuple", data := .seq #[v1, v2, v3] }).get? ow = some { cls := .type "tuple", data := .seq #[v1, v2, v3] } := by rw [← how]; exact Heap.get?_push_size _ rfl
  generalize hs3 : ({ s2 with heap := s2.heap.push { cls := .type "tuple", data := .seq #[v1, v2, v3] } } : Shared) = s3 at m3
  have hh3 : s2.heap.push { cls := .type "tuple", data := .seq #[v1, v2, v3] } = s3.heap := by rw [← hs3]
  rw [hh3] at how3
  have e3 : (⟨s2.heap.push { cls := .type "tuple", data := .seq #[v1, v2, v3] }, s2.gens, s2.drawn, s2.toks, s2.os⟩ : Shared) = s3 := hs3
  have mall : Mono s s3 := (m1.trans m2).trans m3
  obtain ⟨oi, hoi⟩ := hl1
  have f1 : s.heap.get? it = none := hf1
  have f2 : s.heap.get? pr = none := none_of_mono m1 hpr1
  have f3 : s.heap.get? ow = none := none_of_mono (m1.trans m2) how2
  have nip : pr ≠ it := fun e => by rw [e, hoi] at hpr1; cases hpr1
  have npo : pr ≠ ow := fun e => by rw [← e, hpr2] at how2; cases how2
  have nio : it ≠ ow := fun e => by
    have := m2.keep _ _ hoi
    rw [e, how2] at this; cases this
  have hnew : ∀ a ∈ [it, pr, ow], s.heap.get? a = none := by
    intro a ha
    simp at ha
    rcases ha with rfl | rfl | rfl <;> assumption
  have I3 : InvH g ([it, pr, ow] ++ os) ad objs s3 := I.grow mall hnew fun a ha => by
    simp at ha
    rcases ha with rfl | rfl | rfl
    · exact ⟨_, (m2.trans m3).keep _ _ hoi⟩
    · exact ⟨_, m3.keep _ _ hpr2⟩
    · exact ⟨_, how3⟩
  have st : Stays g os ad s.heap ([it, pr, ow] ++ os) ad s3.heap := Stays.grow mall hnew
  have hno : it ∉ os := not_in_os I f1
  refine wpAny_pure ⟨plainId_quiet plain_reduce_loop _, ?_⟩
  refine red_loop (c' := v3) (b := v2) (os := os) (ad₀ := ad) (s₀ := s3) hF hA (oo := { cls := .type "tuple", data := .seq #[v1, v2, v3] }) rfl (by simp [hno, nip.symm, nio]) nip npo (fun v r objs' ad' s' k' rv' H' S' => ?_) I3 l 0 objs ad s3 r0 v3 (by simp) (by simp) w I3 (r1.stays st) (r2.stays st) (r3.stays st) (it1.keep fun o e => (m2.trans m3).keep _ _ e) ⟨_, _, m3.keep _ _ hpr2⟩ how3 Step.refl
  refine post v r objs' ad' s' k' (Rep.stays (Stays.shrink (new := [pr, ow])) _ _ rv') (InvH.shrink (new := [pr, ow]) H') (Step.after mall S' fun a ha => hnew a ?_)
  simp at ha ⊢
  rcases ha with rfl | rfl <;> simp
end
end Vc
end
section
open PySem PySem.W PyProof.Rows PySem.Calls
set_option maxRecDepth 10000
set_option autoImplicit false
set_option linter.unusedVariables false
set_option linter.unusedSectionVars false
namespace Vc
/-- a frame whose code keeps a table of made code -/
structure MkEnv (g : G) (env : Env) (c P : Addr) (qual : Str) : Prop where
  code : env.code = .ref c
  hd : CodeHd g.h₀ c P
  mem : P ∈ g.tabs
  tq : g.tq P = qual
def BMain (g : G) : Prop := ∃ bm ob, g.mg "__builtins__" = some (.ref bm) ∧ bm ≠ builtinsNs ∧ g.h₀.get? bm = some ob ∧ ob.cls = .type "module" ∧ ob.dict = some builtinsNs ∧ ob.data = .plain

theorem codeAmong_app {pos : Pos} {a b : Int} {v cv : Value} : ∀ {l : List Value}, TriplesOk l → codeAmong pos (l ++ [rawInt a, rawInt b, v]) = some cv → codeAmong pos l = some cv ∨ cv = v := by
  intro l h e
  fun_induction TriplesOk l with
  | case1 =>
    simp only [List.nil_append, rawInt, codeAmong] at e
    split at e
    · exact .inr (Option.some.inj e).symm
    · cases e
  | case2 x t y u z rest ih =>
    simp only [List.cons_append, codeAmong] at e ⊢
    split at e
    · rename_i hh; rw [if_pos hh]; exact .inl e
    · rename_i hh; rw [if_neg hh]; exact ih h e
  | case3 => exact h.elim

section
variable {g : G} {N : Nms} {c : C} {ℓ : Nat} {os own : List Addr} {ad ad' ad₀ : AD} {s s' s₀ : Shared} {A : Around} {E : Value → Shared → Prop} {objs objs' : List AO} {K : SV → List AO → Prop} {env : Env} {nm : List (Str × Nat)} {wr : Str → Bool} {σ : St}

/-- only a table of made code is another -/
theorem tab_inv {P : Addr} (I : InvH g os ad objs s) (hP : P ∈ g.tabs) (keep : ∀ b o, b ≠ P → s.heap.get? b = some o → s'.heap.get? b = some o) (hr : s'.os = s.os ∧ s'.gens = s.gens)
    (hn : Step g [] ad s ad s' → ∃ o, s'.heap.get? P = some o ∧ TabOk g os ad s'.heap P o) : InvH g os ad objs s' ∧ Step g [] ad s ad s' := by
  have hPm : P ∈ mt g os ad := mem_mt.mpr (.inr (.inr hP))
  have S : Step g [] ad s ad s' := ⟨⟨[], by simp, by simp [adr]⟩, fun a o _ _ h3 e => keep a o (fun q => h3 (q ▸ hP)) e, hr⟩
  have st : Stays g os ad s.heap os ad s'.heap := S.stays (by simp)
  refine ⟨⟨fun a o e => keep a o (fun q => ?_) (I.base a o e), I.fresh₀, fun a ha => ?_, I.nodup, I.ap1, I.ap2, fun a ha => ?_, I.objs.1, fun j o p e1 e2 => ?_⟩, S⟩
  · subst q
    have := I.fresh₀ _ hPm
    rw [e] at this; cases this
  · obtain ⟨o, e⟩ := I.live a ha
    exact ⟨o, keep a o (fun q => (I.ap2 P hP).1 (q ▸ ha)) e⟩
  · by_cases q : a = P
    · subst q; exact hn S
    · obtain ⟨o, e, t⟩ := I.tabs a ha
      exact ⟨o, keep a o q e, t.stays st⟩
  · refine (I.objs.2 j o p e1 e2).stays st fun a ha o' e => keep a o' (fun q => (I.ap2 P hP).2 ?_) e
    subst q
    simp only [List.mem_cons, Option.mem_toList] at ha
    rcases ha with rfl | ha
    · exact adr_of_get e2
    · exact adr_of_get2 e2 ha

/-- a function is made -/
theorem made_ok {k : Nat} {name qual : Str} {params : Arguments} {body : FuncBody} {scope : Scope} {free : List Str} {dV : Value} {pos : Pos} {firstLine : Nat} {clos : List (Str × Addr)} {cvs dvs : List Value} {cc P : Addr} {Q : Value → Shared → Prop}
    (G0 : GOk g N c) (B2 : BMain g) (I : InvH g os ad objs s) (M : MkEnv g env cc P qual) (hcl : closureFor scope env = pure clos) (hge : env.globals = mainGlobals) (hk : g.clo k = ⟨name, qual, params, body, scope, free⟩)
    (hc : CellsAt g os ad s.heap free clos cvs) (hd : DflAt g os ad s.heap dV dvs)
    (post : ∀ a s', InvH g os ad objs s' → Step g [] ad s ad s' → CloAt g os ad s'.heap k a cvs dvs → Q (.ref a) s') : wpAny (model g.prog g.w) A (makeTail name qual params body scope env dV .none none pos firstLine) Q E s := by
  obtain ⟨bm, ob, b1, b2, b3, b4, b5, b6⟩ := B2
  obtain ⟨o, hP, ps, rfl, ht, hcv⟩ := I.tabs P M.mem
  have hPm : P ∈ mt g os ad := mem_mt.mpr (.inr (.inr M.mem))
  have hns := G0.glob.keeps I.base
  have hgP : mainGlobals ≠ P := fun q => by
    obtain ⟨o, es, ep, e, hd, _⟩ := hns
    rw [q, hP] at e; cases e; cases hd
  have hbP : bm ≠ P := fun q => by
    have e := I.base _ _ b3
    rw [q, hP] at e; cases e; cases b4
  have hbG : bm ≠ mainGlobals := fun q => by
    obtain ⟨o, es, ep, e, hd, _⟩ := hns
    have e3 := I.base _ _ b3
    rw [q, e] at e3; cases e3; rw [hd] at b6; cases b6
  have hB : s.heap.BuiltinsAt g.mg P := ⟨bm, ob, b1, b2, hbG, hbP, I.base _ _ b3, b4, b5, b6⟩
  have hC : CodeHd s.heap cc P := M.hd.keeps I.base
  have fin : ∀ (h' : Heap) (tk : Nat) (cv doc ctv : Value), InvH g os ad objs { s with heap := h', toks := tk } → Step g [] ad s ad { s with heap := h', toks := tk } → CodeFz g os ad h' cv qual →
      Q (.ref h'.objs.size) { s with heap := h'.push { cls := .type "function", data := .func (kdv_fn name qual params body scope clos dV doc ((g.mg "__name__").getD .none) cv ctv) }, toks := tk } := by
    intro h' tk cv doc ctv I1 S1 hcd
    have m : Mono ({ s with heap := h', toks := tk } : Shared) { s with heap := h'.push { cls := .type "function", data := .func (kdv_fn name qual params body scope clos dV doc ((g.mg "__name__").getD .none) cv ctv) }, toks := tk } := Mono.push' _
    have I2 := I1.mono m
    have S2 : Step g [] ad s ad { s with heap := h'.push { cls := .type "function", data := .func (kdv_fn name qual params body scope clos dV doc ((g.mg "__name__").getD .none) cv ctv) }, toks := tk } := Step.trans I (by simp) I1 S1 m.step
    have st := S2.stays (os := os) (by simp)
    have stm := (m.step (g := g) (ad := ad) (own := [])).stays (os := os) (by simp)
    have fz := fz_push (o := { cls := .type "function", data := .func (kdv_fn name qual params body scope clos dV doc ((g.mg "__name__").getD .none) cv ctv) }) I1 rfl
    refine post _ _ I2 S2 ⟨clos, dV, (g.mg "__name__").getD .none, doc, ctv, cv, ?_, ?_, hd.stays st, ?_⟩
    · rw [hk]; exact fz
    · rw [hk]; exact hc.stays st
    · rw [hk]; exact hcd.stays stm
  cases hf : codeAmong pos ps.toList with
  | some cv =>
    have hcd : CodeFz g os ad s.heap cv qual := by rw [← M.tq]; exact hcv pos cv hf
    refine kdv_makeTailHit hcl hge hns M.code hC hP ht hf hB fun ctv doc h' tk hk' hsz => ?_
    have m : Mono s { s with heap := h', toks := tk } := ⟨hk', rfl, rfl⟩
    exact fin h' tk cv doc ctv (I.mono m) m.step (hcd.stays m.stays)
  | none =>
    refine kdv_makeTail hcl hge hns M.code hC hP ht hf hgP hB fun c' ctv doc h' tk hx hge' hlt hrec htb => ?_
    obtain ⟨c₂, oc, vs, t, e2, hoc, hdd, hv⟩ := hrec
    cases e2
    have key : Step g [] ad s ad { s with heap := h', toks := tk } → CodeFz g os ad h' (.ref c') qual := fun S =>
      ⟨c', oc, vs, t, rfl, ⟨hoc, fun hm => by
        obtain ⟨o, e⟩ := I.liveAll _ hm
        exact absurd (Heap.lt_size e) (Nat.not_lt.mpr hge')⟩, hdd, hv⟩
    have H := tab_inv (s' := { s with heap := h', toks := tk }) I M.mem (fun b o hb e => hx b o hb e) ⟨rfl, rfl⟩ fun S => by
      have st := S.stays (os := os) (by simp)
      refine ⟨_, htb, _, rfl, ?_, fun pos' cv e => ?_⟩
      · rw [Array.toList_append]; exact TriplesOk_snoc _ _ _ _ ht
      · rw [Array.toList_append] at e
        rcases codeAmong_app ht e with e | rfl
        · exact (hcv pos' cv e).stays st
        · rw [M.tq]; exact key S
    exact fin h' tk _ doc ctv H.1 H.2 (key H.2)
end
end Vc
end
section
open PySem PySem.W PyProof.Rows PySem.Calls
set_option maxRecDepth 10000
set_option autoImplicit false
set_option linter.unusedVariables false
set_option linter.unusedSectionVars false
namespace Vc
section
variable {g : G} {N : Nms} {c : C} {ℓ : Nat} {os own : List Addr} {ad ad' ad₀ : AD} {s s' s₀ : Shared} {A : Around} {E : Value → Shared → Prop} {objs objs' : List AO} {K : SV → List AO → Prop} {env : Env} {nm : List (Str × Nat)} {wr : Str → Bool} {σ : St}

/-- a lambda with no default and nothing captured -/
theorem tr_lam (G0 : GOk g N c) (B2 : BMain g) {k : Nat} {params : Arguments} {body : Expr} {scope : Scope} {pos : Pos} {cc P : Addr} (M : MkEnv g env cc P (env.qual ++ "<lambda>")) (hdef : defaultsOf params env = ([], [])) (hcl : closureFor scope env = pure [])
    (hk : g.clo k = ⟨"<lambda>", env.qual ++ "<lambda>", params, .expr body, scope, []⟩) : TrE g N c ℓ (fun σ K => K (.clo k []) σ) env nm (eval (.Lambda params body scope pos) env) := by
  intro os own wr A ad σ s K Q E hA I w post
  refine kla_eval hdef ?_
  rw [makeFunction_eq]
  simp only [List.zip_nil_right, List.filterMap_nil, List.isEmpty_nil, if_true, pure_bind]
  exact made_ok G0 B2 I.H M hcl I.F.glob hk ⟨rfl, rfl⟩ (.inl ⟨rfl, rfl⟩) fun a s' H S C => post _ _ _ _ _ w ⟨a, [], [], rfl, C, RepL.nil⟩ (I.objs H S) S

/-- a call, by any word on what is called -/
theorem tr_callW {CW : SV → List SV → List AO → (SV → List AO → Prop) → Prop} (cw : ∀ {f : SV} {args : List SV} {objs : List AO} {K : SV → List AO → Prop}, CW f args objs K → CallOk g ℓ f args objs K) {Wf : St → (SV → St → Prop) → Prop} {Wr : St → (List SV → St → Prop) → Prop} {id : Str} {p pos : Pos} {es : List Expr} (hn : noStar es = true)
    (hf : TrE g N c ℓ Wf env nm (eval (.Name id p) env)) (hr : TrL es.length g N c ℓ Wr env nm (spliced (es.map fun e => (false, eval e env)))) :
    TrE g N c ℓ (fun σ K => Wf σ fun vf σ1 => Wr σ1 fun vs σ2 => CW vf vs σ2.objs fun r objs => K r ⟨σ2.vars, objs⟩) env nm (eval (.Call (.Name id p) es [] pos) env) := by
  intro os own wr A ad σ s K Q E hA I w post
  show wpAny _ _ (eval (.Name id p) env >>= fun f => callWith pos f [] (backTo pos (starEach es env)) (backToKw pos (keywordEach [] env))) _ _ _
  rw [star_of pos env hn]
  refine wpAny_bind (hf os own wr A ad σ s _ _ E hA I w fun va a ad1 σ1 s1 w1 ra I1 S1 => ?_)
  refine callWith_any (P := fun h => KeepOk (model g.prog g.w) h va) (fun h k => k) ?_
  refine hr os own wr A ad1 σ1 s1 _ _ E hA I1 w1 fun vs l ad2 σ2 s2 w2 r2 I2 S2 hz => ?_
  obtain ⟨kk, call⟩ := cw w2 A os ad2 s2 va vs hA I2.H (ra.stays (I1.sts S2)) r2
  exact ⟨kk, call Q E fun v r objs' ad' s' k rv H S => post _ _ _ _ _ k rv (I2.objs H S) (I.stp I2 (I.stp I1 S1 S2) S)⟩

theorem okAll (G0 : GOk g N c) (Sp : SpOk g N c ℓ) (hN : ∀ j, N.fname j = g.fname j) (hinj : ∀ f j, f < 9 → g.fname j = g.fname f → j = f) : ∀ (xs : Xs) (es : List Expr) (kd : Kd), KdOk env kd → ckEs N kd nm xs es = true → TrL es.length g N c ℓ (wpEs c xs) env nm (evalAll (evalEach es env))
  | .nil, [], kd, hk, h => by
    intro os own wr A ad σ s K Q E hA I w post
    exact kdv_all0 (post _ _ _ _ _ w RepL.nil I Step.refl rfl)
  | .nil, _ :: _, kd, hk, h => by simp [ckEs] at h
  | .cons _ _, [], kd, hk, h => by simp [ckEs] at h
  | .cons x rr, e :: es, kd, hk, h => by
    simp only [ckEs, Bool.and_eq_true] at h
    intro os own wr A ad σ s K Q E hA I w post
    refine kdv_all1 (okE G0 Sp hN hinj x e kd nm env hk h.1 os own wr A ad σ s _ _ E hA I w fun v r ad1 σ1 s1 w1 r1 I1 S1 => ?_)
    refine okAll G0 Sp hN hinj rr es kd hk h.2 os own wr A ad1 σ1 s1 _ _ E hA I1 w1 fun vs rs ad2 σ2 s2 w2 r2 I2 S2 hz => ?_
    exact post _ _ _ _ _ w2 (RepL.cons (r1.stays (I1.sts S2)) r2) I2 (I.stp I1 S1 S2) (by simp [hz])

/-- statements, where some cells are frozen -/
def TrSx (X : List Addr → Prop) (g : G) (N : Nms) (c : C) (ℓ : Nat) (W : St → (Fl → St → Prop) → Prop) (env : Env) (nm : List (Str × Nat)) (wr : Str → Bool) (t : Sem Flow) : Prop :=
  ∀ os own A ad σ s K Q E, X os → AOk A ℓ → Inv g os own env nm wr ad σ s → W σ K → PostS g os own env nm wr ad s K Q → wpAny (model g.prog g.w) A t Q E s
theorem TrS.x {X : List Addr → Prop} {W : St → (Fl → St → Prop) → Prop} {t : Sem Flow} (h : TrS g N c ℓ W env nm wr t) : TrSx X g N c ℓ W env nm wr t := fun os own A ad σ s K Q E _ => h os own A ad σ s K Q E
theorem trx_scons {X : List Addr → Prop} {st : Stmt} {rest : List Stmt} {W Wr : St → (Fl → St → Prop) → Prop} (h : TrSx X g N c ℓ W env nm wr (exec st env)) (hr : TrSx X g N c ℓ Wr env nm wr (execs rest env)) :
    TrSx X g N c ℓ (fun σ K => W σ fun fl σ1 => match fl with | .next => Wr σ1 K | fl => K fl σ1) env nm wr (execs (st :: rest) env) := by
  intro os own A ad σ s K Q E hx hA I w post
  refine wpAny_execs_cons (h os own A ad σ s _ _ E hx hA I w fun f fl ad1 σ1 s1 w1 r1 I1 S1 => ?_)
  cases f with
  | next =>
    cases fl <;> first | exact r1.elim | skip
    exact hr os own A ad1 σ1 s1 _ _ E hx hA I1 w1 fun f fl ad2 σ2 s2 k r I2 S2 => post _ _ _ _ _ k r I2 (I.tr I1 S1 S2)
  | brk => cases fl <;> first | exact r1.elim | exact post _ .brk _ _ _ w1 r1 I1 S1
  | cont => cases fl <;> first | exact r1.elim | exact post _ .cont _ _ _ w1 r1 I1 S1
  | ret v => cases fl <;> first | exact r1.elim | exact post _ (.ret _) _ _ _ w1 r1 I1 S1
theorem trx_ite {X : List Addr → Prop} {pos : Pos} {te : Expr} {ab bb : List Stmt} {Wt : St → (Bool → St → Prop) → Prop} {Wa Wb : St → (Fl → St → Prop) → Prop} (ht : TrT g N c ℓ Wt env nm (isTrue te env (eval te env))) (ha : TrSx X g N c ℓ Wa env nm wr (execs ab env)) (hb : TrSx X g N c ℓ Wb env nm wr (execs bb env)) :
    TrSx X g N c ℓ (fun σ K => Wt σ fun z σ1 => if z then Wa σ1 K else Wb σ1 K) env nm wr (exec (.If te ab bb pos) env) := by
  intro os own A ad σ s K Q E hx hA I w post
  refine wpAny_If (ht os own wr A ad σ s _ _ E hA I w fun b ad1 σ1 s1 w1 I1 S1 => ?_)
  cases b with
  | true => exact ha os own A ad1 σ1 s1 _ _ E hx hA I1 w1 fun f fl ad2 σ2 s2 k r I2 S2 => post _ _ _ _ _ k r I2 (I.tr I1 S1.toOwn S2)
  | false => exact hb os own A ad1 σ1 s1 _ _ E hx hA I1 w1 fun f fl ad2 σ2 s2 k r I2 S2 => post _ _ _ _ _ k r I2 (I.tr I1 S1.toOwn S2)

/-- the values of captured names -/
def capV (vars : List SV) : List Nat → Option (List SV)
  | [] => some []
  | i :: is => match vars[i]? with
    | some .unb => none
    | some v => (capV vars is).map (v :: ·)
    | none => none

theorem closureFor_of {scope : Scope} {ads : Str → Addr} (h : ∀ p ∈ scope.names, p.2 = NameKind.free → env.cells.lookup p.1 = some (ads p.1)) :
    closureFor scope env = pure ((((scope.names.filter fun p => p.2 == .free).map (·.1)).reverse).map fun x => (x, ads x)) := by
  have z : ∀ (names : List (Str × NameKind)) (acc : List (Str × Addr)), (∀ p ∈ names, p.2 = NameKind.free → env.cells.lookup p.1 = some (ads p.1)) →
      (forIn names acc fun (p : Str × NameKind) cs => (if p.2 == .free then do let a ← cellOf env p.1; pure (ForInStep.yield ((p.1, a) :: cs)) else pure (ForInStep.yield cs) : Sem _)) = pure ((((names.filter fun p => p.2 == .free).map (·.1)).reverse).map (fun x => (x, ads x)) ++ acc) := by
    intro names
    induction names with
    | nil => intro acc _; rw [List.forIn_nil]; rfl
    | cons p r ih =>
      intro acc hp
      obtain ⟨n, k⟩ := p
      rw [List.forIn_cons]
      by_cases hk : k = .free
      · subst hk
        have hc := hp (n, .free) (by simp) rfl
        simp only [beq_self_eq_true, if_true, cellOf, hc, pure_bind]
        refine (ih _ fun q hq => hp q (by simp [hq])).trans ?_
        simp
      · have : (k == NameKind.free) = false := by simpa using hk
        simp only [this, Bool.false_eq_true, if_false, pure_bind]
        refine (ih _ fun q hq => hp q (by simp [hq])).trans ?_
        simp [this]
  have e := z scope.names [] h
  unfold closureFor
  show (_ >>= _) = _
  rw [show (forIn scope.names ([] : List (Str × Addr)) _ : Sem _) = _ from e]
  simp

theorem capV_cells {ads : Str → Addr} {vars : List SV} {h : Heap} (F : FrOk g os own env nm wr ad vars h) : ∀ {free : List Str} {is : List Nat} {vs : List SV}, (∀ x ∈ free, env.kindOf x ≠ some .local ∧ ads x ∉ os ∧ env.cells.lookup x = some (ads x)) → free.map (nm.lookup ·) = is.map some → capV vars is = some vs →
    ∃ cvs, CellsAt g os ad h free (free.map fun x => (x, ads x)) cvs ∧ RepL g os ad h vs cvs
  | [], [], vs, _, _, e => by
    cases e
    exact ⟨[], ⟨rfl, rfl⟩, RepL.nil⟩
  | [], _ :: _, _, _, hm, _ => by simp at hm
  | _ :: _, [], _, _, hm, _ => by simp at hm
  | x :: free, i :: is, vs, hx, hm, e => by
    simp only [List.map_cons, List.cons.injEq] at hm
    obtain ⟨hi, hm⟩ := hm
    obtain ⟨h1, h2, h3⟩ := hx x (by simp)
    unfold capV at e
    split at e
    · cases e
    · rename_i v hne hv
      obtain ⟨ws, e1, rfl⟩ := Option.map_eq_some_iff.mp e
      obtain ⟨_, cc, ov, g3, ⟨oc, g4, g4'⟩, g5, _, g7, g8⟩ := F.cells x i hi h1
      rw [h3] at g3; cases g3
      obtain ⟨cvs, j1, j2⟩ := capV_cells F (fun y hy => hx y (by simp [hy])) hm e1
      rcases g5 v hv with rfl | ⟨u, rfl, ru⟩
      · exact (hne rfl).elim
      · refine ⟨u :: cvs, ⟨ads x, _, u, cvs, rfl, rfl, ⟨oc, ⟨g4, ?_⟩, g4'⟩, j1⟩, RepL.cons ru j2⟩
        rw [mem_mt]
        simp only [not_or]
        exact ⟨h2, g7, g8⟩
    · cases e

/-- a def whose defaults are read now -/
theorem tr_def (G0 : GOk g N c) (B2 : BMain g) {k i : Nat} {name : Str} {params : Arguments} {body : List Stmt} {scope : Scope} {pos : Pos} {cc P : Addr} {free : List Str} {is : List Nat} {Wd : St → (List SV → St → Prop) → Prop} {ads : Str → Addr} {n : Nat}
    (M : MkEnv g env cc P (qualnameIn env name name)) (hd : params.defaults.isEmpty = false) (hk0 : params.kw_defaults = []) (ha : annTrees params none env = [])
    (hk : g.clo k = ⟨name, qualnameIn env name name, params, .stmts body, scope, free⟩) (hfree : free = ((scope.names.filter fun p => p.2 == .free).map (·.1)).reverse)
    (hx : ∀ x ∈ free, env.kindOf x ≠ some .local ∧ env.cells.lookup x = some (ads x)) (hm : free.map (nm.lookup ·) = is.map some)
    (hw : wr name = true) (hi : nm.lookup name = some i) (hn : n ≠ 0)
    (hv : TrL n g N c ℓ Wd env nm (evalAll (evalEach params.defaults env))) :
    TrSx (fun os => ∀ x ∈ free, ads x ∉ os) g N c ℓ (fun σ K => Wd σ fun dvs σ1 => match capV σ1.vars is with | some vs => K .next ⟨σ1.vars.set i (.clo k (vs ++ dvs)), σ1.objs⟩ | none => False) env nm wr (exec (.FunctionDef name params body [] none [] scope none name pos) env) := by
  intro os own A ad σ s K Q E hX hA I w post
  refine kdv_def hd hk0 ha ?_
  refine hv os own wr A ad σ s _ _ E hA I w fun dv dvs ad1 σ1 s1 w1 rd I1 S1 hz => ?_
  split at w1
  · rename_i vs hcap
    have hne : dv.isEmpty = false := by cases dv with | nil => exact (hn hz.symm).elim | cons _ _ => rfl
    have hcl : closureFor scope env = pure (free.map fun x => (x, ads x)) := by
      rw [hfree]
      exact closureFor_of fun p hp hf => (hx p.1 (by
        rw [hfree, List.mem_reverse, List.mem_map]
        exact ⟨p, by rw [List.mem_filter]; exact ⟨hp, by rw [hf]; rfl⟩, rfl⟩)).2
    obtain ⟨cvs, hc, rc⟩ := capV_cells (ads := ads) I1.F (fun x q => ⟨(hx x q).1, hX x q, (hx x q).2⟩) hm hcap
    rw [makeFunction_eq]
    simp only [List.zip_nil_right, List.filterMap_nil, List.isEmpty_nil, if_true, pure_bind, hne, Bool.false_eq_true, if_false]
    refine wpAny_bind (wpAny_newTextTuple ?_)
    have m : Mono s1 { s1 with heap := s1.heap.push (kdv_tup dv) } := Mono.push' _
    have I2 := I1.mono m
    have st := m.stays (g := g) (os := os) (ad := ad1)
    have fz : Fz g os ad1 (s1.heap.push (kdv_tup dv)) s1.heap.objs.size (kdv_tup dv) := fz_push I1.H rfl
    refine made_ok (s := { s1 with heap := s1.heap.push (kdv_tup dv) }) G0 B2 I2.H M hcl I.F.glob hk (hc.stays st) (.inr ⟨by rintro rfl; simp at hne, _, rfl, fz⟩) fun a s3 H S C => ?_
    have S3 : Step g [] ad1 s1 ad1 s3 := I1.stp I2 m.step S
    have I3 := I1.objs H S3
    have st3 := I1.sts S3
    have rcl : Rep g os ad1 s3.heap (.clo k (vs ++ dvs)) (.ref a) := ⟨a, cvs, dv, rfl, C, (rc.append rd).stays st3⟩
    exact storeN_ok I3 hw hi rcl fun s4 I4 S4 => post _ .next _ _ _ w1 trivial I4 (I.tr I3 (I.stp I1 S1 S3).toOwn S4)
  · exact w1.elim
end
end Vc
end
section
open PySem PySem.W PyProof.Rows PySem.Calls
set_option maxRecDepth 10000
set_option autoImplicit false
set_option linter.unusedVariables false
set_option linter.unusedSectionVars false
namespace Vc
section
variable {g : G} {N : Nms} {c : C} {ℓ : Nat} {os os' own own' : List Addr} {ad ad' ad₀ : AD} {s s' s₀ : Shared} {A : Around} {E : Value → Shared → Prop} {objs objs' : List AO} {K : SV → List AO → Prop} {env : Env} {nm : List (Str × Nat)} {wr wr' : Str → Bool} {σ : St} {h : Heap}

theorem Stays.sub (h1 : ∀ a ∈ os', a ∈ os) : Stays g os ad h os' ad h := by
  refine ⟨fun a o ⟨q, n⟩ => ⟨q, fun hm => n ?_⟩, fun _ _ e => e⟩
  rw [mem_mt] at hm ⊢
  exact hm.imp (h1 a) id
theorem InvH.sub (I : InvH g os ad objs s) (h1 : ∀ a ∈ os', a ∈ os) : InvH g os' ad objs s where
  base := I.base
  fresh₀ := fun a ha => I.fresh₀ a (by rw [mem_mt] at ha ⊢; exact ha.imp (h1 a) id)
  live := fun a ha => I.live a (h1 a ha)
  nodup := I.nodup
  ap1 := fun a ha => I.ap1 a (h1 a ha)
  ap2 := fun a ha => ⟨fun hm => (I.ap2 a ha).1 (h1 a hm), (I.ap2 a ha).2⟩
  tabs := fun a ha => let ⟨o, e, t⟩ := I.tabs a ha; ⟨o, e, t.stays (Stays.sub h1)⟩
  objs := ⟨I.objs.1, fun i o p e1 e2 => (I.objs.2 i o p e1 e2).stays (Stays.sub h1) fun a _ o e => e⟩
/-- some cells are written no more -/
theorem Inv.freeze (I : Inv g os own env nm wr ad σ s) (h1 : ∀ a ∈ os', a ∈ os) (h2 : ∀ a ∈ own', a ∈ os') (h3 : env.locals ∈ own') (hw : ∀ x, wr' x = true → wr x = true ∧ (env.kindOf x = some .cell → ∀ c, env.cells.lookup x = some c → c ∈ own')) : Inv g os' own' env nm wr' ad σ s := by
  have st := Stays.sub (g := g) (ad := ad) (h := s.heap) h1
  refine ⟨I.H.sub h1, I.F.kind, I.F.glob, I.F.blt, h2, h3, ?_, ?_, I.F.inj, fun x hx => ?_⟩
  · obtain ⟨m, hn, hm⟩ := I.F.ns
    exact ⟨m, hn, fun x i a b sv c => (hm x i a b sv c).stays st⟩
  · intro x i a b
    obtain ⟨hk, cc, ov, g1, g2, g3, g4⟩ := I.F.cells x i a b
    exact ⟨hk, cc, ov, g1, g2, fun sv q => (g3 sv q).stays st, g4⟩
  · obtain ⟨w1, w2⟩ := hw x hx
    rcases I.F.wr x w1 with q | ⟨q, z⟩
    · exact .inl q
    · exact .inr ⟨q, fun c e => ⟨w2 q c e, (z c e).2⟩⟩

/-- a function of the text's own is called, some of its cells being captured for good -/
theorem fn_okF {k : Nat} {o : Obj} {fd : FuncData} {body : List Stmt} {ps free : List Str} {W : St → (Fl → St → Prop) → Prop} {nv : Nat} {args dfl : List SV} {K : SV → List AO → Prop} (G0 : GOk g N c)
    (ho : g.h₀.get? (g.faddr k) = some o) (hd : o.data = .func fd) (hbody : fd.body = .stmts body) (hco : fd.scope.isCoroutine = false) (hgen : fd.scope.isGenerator = false) (hcl : fd.closure = []) (hgl : fd.globals = mainGlobals) (hbl : fd.builtins = builtinsNs)
    (hcd : g.h₀.CodeRec fd.code fd.qualname) (hck : entCk fd.scope nm ps = true)
    (hfr : ∀ x ∈ free, wrOf fd.scope nm x = true ∧ fd.scope.names.lookup x = some .cell ∧ wr x = false) (hwr : ∀ x, wr x = true → wrOf fd.scope nm x = true)
    (hX : ∀ (env : Env) (ads : Str → Addr), env.scope = fd.scope → env.code = fd.code → env.qual = fd.qualname ++ ".<locals>." → (∀ x ∈ free, env.kindOf x = some .cell ∧ env.cells.lookup x = some (ads x)) → TrSx (fun os => ∀ x ∈ free, ads x ∉ os) g N c ℓ W env nm wr (execs body env))
    (hb : ∀ (s : Shared) (vals : List Value), (∀ a o, g.h₀.get? a = some o → s.heap.get? a = some o) → vals.length = args.length → ∃ dv, BindsTo s fd ⟨vals, []⟩ (ps.zip (vals ++ dv)) ∧ ∀ os ad, InvH g os ad objs s → RepL g os ad s.heap dfl dv) (hl : args.length + dfl.length = ps.length)
    (w : W ⟨vars0 (args ++ dfl) nv, objs⟩ fun fl σ => K (retV fl) σ.objs) : CallOk g (ℓ + 1) (.fn k) args objs K := by
  intro A os ad s fv vals hA I rf r
  have : fv = .ref (g.faddr k) := rf
  subst this
  refine ⟨keep_fn s.heap (I.base _ _ ho) hd, fun Q E post => wpAny_call ?_⟩
  have ho' := I.base _ _ ho
  obtain ⟨hA1, hA2, hA3⟩ := hA
  refine codeAny_call_function (by show A.depth < 1000; omega) ho' hd hco hgen hbody (hcd.keeps I.base) ?_
  obtain ⟨dv, hbd, hdv⟩ := hb s vals I.base r.length
  refine hbd _ _ _ _ ?_
  rw [hgl, hbl, hcl]
  refine enter_ok (ps := ps) (nv := nv) hck I (r.append (hdv os ad I)) (by rw [List.length_append]; exact hl) fun env own s2 hsc hcode hqual hown m I2 => ⟨G0.nolim.keeps I2.H.base, ?_⟩
  refine codeAny_func ?_
  have hko : ∀ x, env.kindOf x = fd.scope.names.lookup x := fun x => by show env.scope.names.lookup x = _; rw [hsc]
  generalize hads : (fun x => (env.cells.lookup x).getD 0) = ads
  have info : ∀ x ∈ free, env.kindOf x = some .cell ∧ env.cells.lookup x = some (ads x) ∧ ads x ∈ own ∧ ads x ≠ env.locals ∧ ∀ y, env.cells.lookup y = some (ads x) → y = x := by
    intro x hx
    obtain ⟨f1, f2, f3⟩ := hfr x hx
    have hk : env.kindOf x = some .cell := (hko x).trans f2
    obtain ⟨i, hi⟩ : ∃ i, nm.lookup x = some i := by
      unfold wrOf at f1
      simp only [Bool.and_eq_true] at f1
      exact Option.isSome_iff_exists.mp f1.1
    obtain ⟨_, cc, ov, g3, _, _, g6, _⟩ := I2.F.cells x i hi (by rw [hk]; simp)
    have e : ads x = cc := by rw [← hads]; show (env.cells.lookup x).getD 0 = cc; rw [g3]; rfl
    rcases I2.F.wr x f1 with q | ⟨_, z⟩
    · rw [hk] at q; cases q
    · obtain ⟨z1, z2⟩ := z cc g3
      rw [e]
      exact ⟨hk, g3, z1, g6, z2⟩
  generalize hown' : (own.filter fun a => decide (a = env.locals) || nm.any fun p => wr p.1 && env.cells.lookup p.1 == some a) = own'
  have hsub : ∀ a ∈ own', a ∈ own := fun a ha => by rw [← hown'] at ha; exact (List.mem_filter.mp ha).1
  have I3 : Inv g (own' ++ os) own' env nm wr ad ⟨vars0 (args ++ dfl) nv, objs⟩ s2 := by
    refine I2.freeze (fun a ha => ?_) (fun a ha => by simp [ha]) ?_ fun x hx => ⟨hwr x hx, fun hk c hc => ?_⟩
    · rcases List.mem_append.mp ha with ha | ha
      · simp [hsub a ha]
      · simp [ha]
    · rw [← hown']
      exact List.mem_filter.mpr ⟨I2.F.loc, by simp⟩
    · rcases I2.F.wr x (hwr x hx) with q | ⟨_, z⟩
      · rw [hk] at q; cases q
      · rw [← hown']
        refine List.mem_filter.mpr ⟨(z c hc).1, ?_⟩
        have f1 := hwr x hx
        unfold wrOf at f1
        simp only [Bool.and_eq_true] at f1
        obtain ⟨i, hi⟩ := Option.isSome_iff_exists.mp f1.1
        simp only [Bool.or_eq_true, List.any_eq_true, Bool.and_eq_true, beq_iff_eq]
        exact .inr ⟨(x, i), mem_of_lookup hi, hx, hc⟩
  have hnot : ∀ x ∈ free, ads x ∉ own' ++ os := by
    intro x hx hm
    obtain ⟨f1, f2, f3, f4, f5⟩ := info x hx
    rcases List.mem_append.mp hm with hm | hm
    · rw [← hown'] at hm
      have := (List.mem_filter.mp hm).2
      simp only [Bool.or_eq_true, List.any_eq_true, Bool.and_eq_true, beq_iff_eq, decide_eq_true_eq] at this
      rcases this with q | ⟨p, _, q1, q2⟩
      · exact f4 q
      · rw [f5 _ q2, (hfr x hx).2.2] at q1; cases q1
    · obtain ⟨o', e⟩ := I.live _ hm
      rw [hown _ f3] at e; cases e
  refine hX env ads hsc hcode hqual (fun x hx => ⟨(info x hx).1, (info x hx).2.1⟩) (own' ++ os) own' (A.deeper env) ad _ s2 _ _ _ hnot ⟨hA1, by show A.depth + 1 + ℓ < 900; omega, by show A.units + 3 + 20 * ℓ < 9000; omega⟩ I3 w fun f fl ad3 σ3 s3 k3 r3 I4 S3 => ?_
  have S' := Step.after m S3 fun a ha => hown a (hsub a ha)
  have H3 := I4.H.shrink
  refine post _ _ _ _ _ k3 ?_ H3 S'
  cases f <;> cases fl <;> first | exact r3.elim | exact rfl | exact Rep.stays Stays.shrink _ _ r3
end
end Vc
end
section
open PySem PySem.W PyProof.Rows PySem.Calls
set_option maxRecDepth 10000
set_option autoImplicit false
set_option linter.unusedVariables false
set_option linter.unusedSectionVars false
namespace Vc
theorem tcall_weight (C : Addr) (rest : List Value) (kw : List (Str × Value)) : (Code.builtin "type.__call__" ⟨.ref C :: rest, kw⟩).weight = 1 := by kernel_rfl
theorem tcall_units (C : Addr) (rest : List Value) (kw : List (Str × Value)) : (Code.builtin "type.__call__" ⟨.ref C :: rest, kw⟩).cUnits = 1 := by kernel_rfl
section
variable {g : G} {N : Nms} {c : C} {ℓ : Nat} {os os' own own' : List Addr} {ad ad' ad₀ : AD} {s s' s₀ : Shared} {A : Around} {E : Value → Shared → Prop} {objs objs' : List AO} {K : SV → List AO → Prop} {env : Env} {nm : List (Str × Nat)} {wr wr' : Str → Bool} {σ : St} {h : Heap}

theorem AOk.under (hA : AOk A (ℓ + 1)) (C : Addr) (rest : List Value) (kw : List (Str × Value)) : AOk (A.under (.builtin "type.__call__" ⟨.ref C :: rest, kw⟩)) ℓ := by
  obtain ⟨h1, h2, h3⟩ := hA
  refine ⟨h1, ?_, ?_⟩
  · show A.depth + (Code.builtin "type.__call__" ⟨.ref C :: rest, kw⟩).weight + ℓ < 900
    rw [tcall_weight]; omega
  · show A.units + (Code.builtin "type.__call__" ⟨.ref C :: rest, kw⟩).cUnits + 20 * ℓ < 9000
    rw [tcall_units]; omega

/-- a function of the text's own is called, its arguments laid anyhow -/
theorem fn_codeA {k : Nat} {o : Obj} {fd : FuncData} {body : List Stmt} {ps : List Str} {W : St → (Fl → St → Prop) → Prop} {nv : Nat} {args : List SV} {K : SV → List AO → Prop} (G0 : GOk g N c)
    (ho : g.h₀.get? (g.faddr k) = some o) (hd : o.data = .func fd) (hbody : fd.body = .stmts body) (hco : fd.scope.isCoroutine = false) (hgen : fd.scope.isGenerator = false) (hcl : fd.closure = []) (hgl : fd.globals = mainGlobals) (hbl : fd.builtins = builtinsNs)
    (hcd : g.h₀.CodeRec fd.code fd.qualname) (hck : entCk fd.scope nm ps = true)
    (hX : ∀ env : Env, env.scope = fd.scope → env.code = fd.code → env.qual = fd.qualname ++ ".<locals>." → TrS g N c ℓ W env nm (wrOf fd.scope nm) (execs body env))
    {a : Args} {vals : List Value} (hb : BindsTo s fd a (ps.zip vals)) (hl : args.length = ps.length)
    (w : W ⟨vars0 args nv, objs⟩ fun fl σ => K (retV fl) σ.objs) {R : Result → Shared → Prop} (hA : AOk A (ℓ + 1)) (I : InvH g os ad objs s) (r : RepL g os ad s.heap args vals)
    (post : ∀ v r objs' ad' s', K r objs' → Rep g os ad' s'.heap r v → InvH g os ad' objs' s' → Step g [] ad s ad' s' → R (.ok (.ret v)) s') : codeAny (model g.prog g.w) A (.call (.ref (g.faddr k)) a) R s := by
  have ho' := I.base _ _ ho
  obtain ⟨hA1, hA2, hA3⟩ := hA
  refine codeAny_call_function (by show A.depth < 1000; omega) ho' hd hco hgen hbody (hcd.keeps I.base) ?_
  refine hb _ _ _ _ ?_
  rw [hgl, hbl, hcl]
  refine enter_ok (ps := ps) (nv := nv) hck I r hl fun env own s2 hsc hcode hqual hown m I2 => ⟨G0.nolim.keeps I2.H.base, ?_⟩
  refine codeAny_func ?_
  refine hX env hsc hcode hqual (own ++ os) own (A.deeper env) ad _ s2 _ _ _ ⟨hA1, by show A.depth + 1 + ℓ < 900; omega, by show A.units + 3 + 20 * ℓ < 9000; omega⟩ I2 w fun f fl ad3 σ3 s3 k3 r3 I3 S3 => ?_
  have S' := Step.after m S3 hown
  have H3 := I3.H.shrink
  refine post _ _ _ _ _ k3 ?_ H3 S'
  cases f <;> cases fl <;> first | exact r3.elim | exact rfl | exact Rep.stays Stays.shrink _ _ r3

/-- a fresh instance becomes a thing that changes -/
theorem InvH.adoptI {x d : Addr} {k : Nat} (I : InvH g (x :: d :: os) ad objs s) (hxd : x ≠ d) (hx : x ∉ os) (hd : d ∉ os) (e1 : s.heap.get? x = some ⟨.ref (g.caddr k), some d, .plain, #[]⟩) (e2 : s.heap.get? d = some (dictOf [] 0)) :
    InvH g os (ad ++ [(x, some d)]) (objs ++ [.inst k []]) s := by
  have nx : x ∉ adr ad := I.ap1 x (by simp)
  have ntx : x ∉ g.tabs := fun q => (I.ap2 x q).1 (by simp)
  have nd : d ∉ adr ad := I.ap1 d (by simp)
  have ntd : d ∉ g.tabs := fun q => (I.ap2 d q).1 (by simp)
  have ea : adr (ad ++ [(x, some d)]) = adr ad ++ [x, d] := by simp [adr]
  have mtl : ∀ b, b ∈ mt g os (ad ++ [(x, some d)]) ↔ b ∈ mt g (x :: d :: os) ad := fun b => by
    simp only [mem_mt, ea, List.mem_append, List.mem_cons, List.not_mem_nil, or_false]
    constructor
    · rintro (h | (h | h | h) | h)
      · exact .inl (.inr (.inr h))
      · exact .inr (.inl h)
      · exact .inl (.inl h)
      · exact .inl (.inr (.inl h))
      · exact .inr (.inr h)
    · rintro ((h | h | h) | h | h)
      · exact .inr (.inl (.inr (.inl h)))
      · exact .inr (.inl (.inr (.inr h)))
      · exact .inl h
      · exact .inr (.inl (.inl h))
      · exact .inr (.inr h)
  have st : Stays g (x :: d :: os) ad s.heap os (ad ++ [(x, some d)]) s.heap := by
    refine ⟨fun b o ⟨q, n⟩ => ⟨q, fun hm => n ((mtl b).mp hm)⟩, fun i p hp => ?_⟩
    rw [List.getElem?_append_left (List.getElem?_eq_some_iff.mp hp).1]; exact hp
  refine ⟨I.base, fun b hb => I.fresh₀ b ((mtl b).mp hb), fun b hb => I.live b (by simp [hb]), ?_, ?_, ?_, fun a ha => let ⟨o, e, t⟩ := I.tabs a ha; ⟨o, e, t.stays st⟩, ?_, ?_⟩
  · rw [ea, List.nodup_append]
    refine ⟨I.nodup, by simp [hxd], fun b hb y hy => ?_⟩
    simp at hy
    rcases hy with rfl | rfl
    · rintro rfl; exact nx hb
    · rintro rfl; exact nd hb
  · intro b hb
    rw [ea, List.mem_append]
    rintro (h | h)
    · exact I.ap1 b (by simp [hb]) h
    · simp at h
      rcases h with rfl | rfl
      · exact hx hb
      · exact hd hb
  · intro b hb
    refine ⟨fun h => (I.ap2 b hb).1 (by simp [h]), ?_⟩
    rw [ea, List.mem_append]
    rintro (h | h)
    · exact (I.ap2 b hb).2 h
    · simp at h
      rcases h with rfl | rfl
      · exact ntx hb
      · exact ntd hb
  · simp [I.objs.1]
  · intro i o p h1 h2
    by_cases hi : i < objs.length
    · rw [List.getElem?_append_left hi] at h1
      rw [List.getElem?_append_left (by rw [I.objs.1]; exact hi)] at h2
      exact (I.objs.2 i o p h1 h2).stays st fun b _ o q => q
    · have h3 : i = objs.length := by
        have := (List.getElem?_eq_some_iff.mp h1).1
        simp at this; omega
      subst h3
      rw [List.getElem?_append_right (Nat.le_refl _)] at h1
      simp at h1
      subst h1
      rw [← I.objs.1, List.getElem?_append_right (Nat.le_refl _)] at h2
      simp at h2
      subst h2
      exact ⟨d, [], 0, rfl, e1, e2, rfl⟩

theorem newInst_ok {k : Nat} (I : InvH g os ad objs s) :
    InvH g os (ad ++ [(s.heap.objs.size + 1, some s.heap.objs.size)]) (objs ++ [.inst k []]) { s with heap := (s.heap.push emptyDict).push (instObj (g.caddr k) s.heap.objs.size) } ∧
    Step g [] ad s (ad ++ [(s.heap.objs.size + 1, some s.heap.objs.size)]) { s with heap := (s.heap.push emptyDict).push (instObj (g.caddr k) s.heap.objs.size) } := by
  have m : Mono s { s with heap := (s.heap.push emptyDict).push (instObj (g.caddr k) s.heap.objs.size) } := ⟨fun a o e => Heap.get?_push_of_some _ (Heap.get?_push_of_some _ e), rfl, rfl⟩
  have f1 : s.heap.get? s.heap.objs.size = none := Heap.get?_none_of_le (Nat.le_refl _)
  have f2 : s.heap.get? (s.heap.objs.size + 1) = none := Heap.get?_none_of_le (Nat.le_succ _)
  have e2 : ((s.heap.push emptyDict).push (instObj (g.caddr k) s.heap.objs.size)).get? s.heap.objs.size = some emptyDict := Heap.get?_push_of_some _ (Heap.get?_push_size _ rfl)
  have e1 : ((s.heap.push emptyDict).push (instObj (g.caddr k) s.heap.objs.size)).get? (s.heap.objs.size + 1) = some (instObj (g.caddr k) s.heap.objs.size) := by
    heap_get
  have I' := I.grow (new := [s.heap.objs.size + 1, s.heap.objs.size]) m (by simp [f1, f2]) (by
    intro a ha
    simp at ha
    rcases ha with rfl | rfl
    · exact ⟨_, e1⟩
    · exact ⟨_, e2⟩)
  refine ⟨InvH.adoptI I' (Nat.succ_ne_self _) (not_in_os I f2) (not_in_os I f1) e1 e2, ⟨⟨_, rfl, fun a ha => ?_⟩, fun a o _ _ _ e => m.keep a o e, rfl, rfl⟩⟩
  simp [adr] at ha
  rcases ha with rfl | rfl
  · exact f2
  · exact f1

/-- an own class is called: its instance is made and handed to __init__ -/
theorem cls_code {K0 : Frag} {k : Nat} {fI : Addr} {rest : List Value} {kw : List (Str × Value)} {R : Result → Shared → Prop} (X : K0.In g.h₀) (hm : makesIn K0 (g.caddr k) = true)
    (hi : findIn K0 (.ref (g.caddr k)) "__init__" = some (some (.ref fI))) (hf : typeIn K0 (.ref fI) = some (.type "function")) (hA : AOk A (ℓ + 1)) (I : InvH g os ad objs s)
    (h : ∀ (A' : Around) (x : Addr) (d : Addr) (s' : Shared), AOk A' ℓ → InvH g os (ad ++ [(x, some d)]) (objs ++ [.inst k []]) s' → Step g [] ad s (ad ++ [(x, some d)]) s' →
      codeAny (model g.prog g.w) A' (.call (.ref fI) ⟨.ref x :: rest, kw⟩) (InitBack x R) s') : codeAny (model g.prog g.w) A (.call (.ref (g.caddr k)) ⟨rest, kw⟩) R s := by
  have X' := X.keeps I.base
  obtain ⟨H, S⟩ := newInst_ok (k := k) I
  obtain ⟨hh, gg, d, t, o⟩ := s
  refine make_core (makes_of X' hm) (looks_findIn X' hi) (fun self => bind_fn X' self hf) (.inl rfl) ?_
  exact h _ _ _ _ (hA.under _ _ _) H S

theorem cls_code0 {K0 : Frag} {k : Nat} {R : Result → Shared → Prop} (X : K0.In g.h₀) (hm : makesIn K0 (g.caddr k) = true)
    (hi : findIn K0 (.ref (g.caddr k)) "__init__" = some (some (.builtin "object.__init__"))) (I : InvH g os ad objs s)
    (h : ∀ (x : Addr) (d : Addr) (s' : Shared), InvH g os (ad ++ [(x, some d)]) (objs ++ [.inst k []]) s' → Step g [] ad s (ad ++ [(x, some d)]) s' → R (.ok (.ret (.ref x))) s') : codeAny (model g.prog g.w) A (.call (.ref (g.caddr k)) ⟨[], []⟩) R s := by
  have X' := X.keeps I.base
  obtain ⟨H, S⟩ := newInst_ok (k := k) I
  obtain ⟨hh, gg, d, t, o⟩ := s
  have Y := makes_of (M := model g.prog g.w) X' hm
  refine make_core Y (looks_findIn X' hi) (fun self => Looks.of_pure (oi_bind self)) (.inr ⟨rfl, rfl⟩) ?_
  have hx : ((hh.push emptyDict).push (instObj (g.caddr k) hh.objs.size)).get? (hh.objs.size + 1) = some (instObj (g.caddr k) hh.objs.size) := by heap_get
  have t1 : Looks (model g.prog g.w) ((hh.push emptyDict).push (instObj (g.caddr k) hh.objs.size)) (typeOf (.ref (hh.objs.size + 1))) (.ref (g.caddr k)) := (Looks.ld hx).andThen .now
  have t2 : Looks (model g.prog g.w) ((hh.push emptyDict).push (instObj (g.caddr k) hh.objs.size)) (isInstance (.ref (hh.objs.size + 1)) (.type "object")) true := t1.andThen (Y.top.keeps fun b o e => Heap.get?_push_of_some _ (Heap.get?_push_of_some _ e))
  refine codeAny_call_builtin oi_plain entry_oi (@check_slot (model g.prog g.w) _ _ _ "object.__init__" "object" "__init__" (.ref (hh.objs.size + 1)) [] [] _ oi_kind oi_split t2 (oi_args (.ref (hh.objs.size + 1))) ?_)
  rw [oi_run]
  exact wpAny_pure ⟨rfl, h _ _ _ H S⟩
end
end Vc
end
section
open PySem PySem.W PyProof.Rows PySem.Calls Builtin.ObjectAttr
set_option maxRecDepth 10000
set_option autoImplicit false
set_option linter.unusedVariables false
set_option linter.unusedSectionVars false
namespace Vc
/-- what the written part says of the own classes -/
structure KOk (K : Frag) (g : G) (N : Nms) (c : C) : Prop where
  X : K.In g.h₀
  base : ∀ k, findIn K (.ref (g.caddr k)) "__getattribute__" = some (some (.builtin "object.__getattribute__")) ∧ findIn K (.ref (g.caddr k)) "__getattr__" = some none ∧
    findIn K (.ref (g.caddr k)) "__setattr__" = some (some (.builtin "object.__setattr__")) ∧ plainOver K (g.caddr k) = true ∧ hasDictIn K (g.caddr k) = true
  fld : ∀ k f, f < 9 → findIn K (.ref (g.caddr k)) (N.fname f) = some none
  meth : ∀ m, m < 5 → findIn K (.ref (g.caddr (c.mc m))) (N.mname m) = some (some (.ref (g.faddr (c.mi m)))) ∧ typeIn K (.ref (g.faddr (c.mi m))) = some (.type "function")
  apart : ∀ m, m < 5 → ∀ j, N.fname j ≠ N.mname m

section
variable {K : Frag} {g : G} {N : Nms} {c : C} {ℓ : Nat} {os own : List Addr} {ad : AD} {s s' : Shared} {A : Around} {E : Value → Shared → Prop} {objs : List AO}

theorem instAt_of {a d : Addr} {k : Nat} {es : List DictEntry} {n : Nat} {h : Heap} (h1 : h.get? a = some ⟨.ref (g.caddr k), some d, .plain, #[]⟩) (h2 : h.get? d = some (dictOf es n)) : InstAt h a ⟨.ref (g.caddr k), some d, .plain, #[]⟩ (g.caddr k) (some (dictOf es n)) := ⟨h1, rfl, rfl, h2⟩

theorem KOk.attr (O : KOk K g N c) : ∀ (f : Nat), f < 9 → ∀ (A : Around) (os : List Addr) (ad : AD) (objs : List AO) (s : Shared) (k : Nat) (a d : Addr) (es : List DictEntry) (n : Nat) (v : Value) (Q : Value → Shared → Prop) (E : Value → Shared → Prop), InvH g os ad objs s →
    s.heap.get? a = some ⟨.ref (g.caddr k), some d, .plain, #[]⟩ → s.heap.get? d = some (dictOf es n) → getL (N.fname f) es = some (some v) → handedIn v = true →
    Q v { s with toks := s.toks + 1 } → ∀ b, wpAny (model g.prog g.w) A (getAttr (.ref a) (N.fname f) b) Q E s := by
  intro f hf A os ad objs s k a d es n v Q E I h1 h2 hg hv h b
  obtain ⟨b1, b2, b3, b4, b5⟩ := O.base k
  exact get_value (O.X.keeps I.base) (instAt_of h1 h2) b1 (findObj_own (attr := none) b5 (O.fld k f hf) rfl hg) hv h

theorem find_none {name : Str} : ∀ {es : List DictEntry}, (∀ e ∈ es, ∃ x t, e.key = .str x t ∧ x ≠ name) → getL name es = some none := by
  intro es h
  unfold getL
  have h1 : es.find? (·.key.isStr name) = none := by
    rw [List.find?_eq_none]
    intro e he
    obtain ⟨x, t, q, hx⟩ := h e he
    rw [q]
    simpa [Value.isStr] using hx
  have h2 : es.any (·.refKey) = false := by
    rw [List.any_eq_false]
    intro e he
    obtain ⟨x, t, q, _⟩ := h e he
    unfold DictEntry.refKey
    rw [q]; simp
  rw [h1, h2]; rfl

theorem KOk.getm (O : KOk K g N c) : ∀ (m : Nat), m < 5 → ∀ (A : Around) (os : List Addr) (ad : AD) (objs : List AO) (s : Shared) (a d : Addr) (es : List DictEntry) (n : Nat) (pl : Sem Bool) (Q : Value × List Value → Shared → Prop) (E : Value → Shared → Prop), InvH g os ad objs s →
    s.heap.get? a = some ⟨.ref (g.caddr (c.mc m)), some d, .plain, #[]⟩ → s.heap.get? d = some (dictOf es n) → (∀ e ∈ es, ∃ j t, e.key = .str (N.fname j) t) →
    Q (.ref (g.faddr (c.mi m)), [.ref a]) s → wpAny (model g.prog g.w) A (getMethod (.ref a) (N.mname m) pl) Q E s := by
  intro m hm A os ad objs s a d es n pl Q E I h1 h2 hk h
  obtain ⟨b1, b2, b3, b4, b5⟩ := O.base (c.mc m)
  obtain ⟨m1, m2⟩ := O.meth m hm
  refine method_fn (O.X.keeps I.base) (instAt_of h1 h2) b1 b2 m1 m2 ?_ h
  show (lookIn _ (dictOf es n)).map _ = _
  rw [lookIn_dict, find_none fun e he => ?_]
  · rfl
  · obtain ⟨j, t, q⟩ := hk e he
    exact ⟨_, t, q, O.apart m hm j⟩

theorem KOk.methA (O : KOk K g N c) : ∀ (f : Nat), f < 9 → ∀ (A : Around) (os : List Addr) (ad : AD) (objs : List AO) (s : Shared) (k : Nat) (a d : Addr) (es : List DictEntry) (n : Nat) (v : Value) (pl : Sem Bool) (Q : Value × List Value → Shared → Prop) (E : Value → Shared → Prop), InvH g os ad objs s →
    s.heap.get? a = some ⟨.ref (g.caddr k), some d, .plain, #[]⟩ → s.heap.get? d = some (dictOf es n) → getL (N.fname f) es = some (some v) → handedIn v = true →
    (∀ t, Q (v, []) { s with toks := t }) → wpAny (model g.prog g.w) A (getMethod (.ref a) (N.fname f) pl) Q E s := by
  intro f hf A os ad objs s k a d es n v pl Q E I h1 h2 hg hv h
  obtain ⟨b1, b2, b3, b4, b5⟩ := O.base k
  have X := O.X.keeps I.base
  have In := instAt_of (g := g) h1 h2
  have hcan := PySem.F.canon_object_ga
  unfold getMethod specialOf
  refine wpAny_bind (wpAny_bind (In.type.here ((looks_findIn X b1).here ?_)))
  dsimp only
  rw [hcan, if_neg (by decide)]
  refine wpAny_bind (wpAny_bind (In.type.here ((looks_findIn X b2).here ?_)))
  refine wpAny_bind (wpAny_bind (In.type.here ((looks_findIn X (O.fld k f hf)).here ?_)))
  exact wpAny_bind (O.attr f hf A os ad objs s k a d es n v _ _ I h1 h2 hg hv (wpAny_pure (h _)) _)

theorem KOk.seta (O : KOk K g N c) : ∀ (f : Nat), f < 9 → ∀ (A : Around) (os : List Addr) (ad : AD) (objs : List AO) (s : Shared) (k : Nat) (a d : Addr) (es : List DictEntry) (n : Nat) (v : Value) (Q : Unit → Shared → Prop) (E : Value → Shared → Prop), InvH g os ad objs s →
    s.heap.get? a = some ⟨.ref (g.caddr k), some d, .plain, #[]⟩ → s.heap.get? d = some (dictOf es n) → (getL (N.fname f) es).isSome = true → es.length ≤ 100 →
    (∀ t h' tk n', (∀ b o, b ≠ d → s.heap.get? b = some o → h'.get? b = some o) → h'.get? d = some (dictOf (putL (N.fname f) (PyData.keyHash g.w.params (N.fname f)) (.str (N.fname f) t) v es) n') → Q () { s with heap := h', toks := tk }) →
    wpAny (model g.prog g.w) A (setAttr (.ref a) (N.fname f) v) Q E s := by
  intro f hf A os ad objs s k a d es n v Q E I h1 h2 hl hz h
  obtain ⟨b1, b2, b3, b4, b5⟩ := O.base k
  have X := O.X.keeps I.base
  have In := instAt_of (g := g) h1 h2
  have ht : takerIn K (g.caddr k) (N.fname f) = some none := by unfold takerIn; rw [O.fld k f hf]; rfl
  refine set_plain X In b3 (osa_open (s := { s with toks := s.toks + 1 }) X In b4 ht fun b => ?_)
  obtain ⟨cd, hc, hd'⟩ := any_some b5
  refine wpAny_bind (wpAny_pure (wpAny_bind (wpAny_bind (wpAny_loadPart h1 (wpAny_bind (Looks.here (s := { s with toks := s.toks + 1 }) (looks_clsIn X hc) ?_))))))
  rw [hd']
  refine wpAny_pure (a := some d) (wpAny_bind (wpAny_pure (wpAny_bind ?_)))
  unfold nsSet
  refine wpAny_bind (wpAny_bind (wpAny_askSetting (wpAny_pure (wpAny_bind (wpAny_mkText (wpAny_bind (wpAny_loadPart h2 ?_)))))))
  have c : (!es.any (·.key.isStr (N.fname f)) && es.any (·.refKey)) = false := by
    unfold getL at hl
    split at hl
    · rename_i en he
      rw [List.any_eq_true.mpr ⟨en, List.mem_of_find?_eq_some he, List.find?_some he⟩]; rfl
    · split at hl
      · cases hl
      · rename_i z; rw [Bool.not_eq_true] at z; rw [z, Bool.and_false]
  have hput := putName_dict (N.fname f) (PyData.keyHash g.w.params (N.fname f)) (.str (N.fname f) (s.toks + 1)) v es n
  have hlen : (putL (N.fname f) (PyData.keyHash g.w.params (N.fname f)) (.str (N.fname f) (s.toks + 1)) v es).length ≤ es.length + 1 := by
    generalize PyData.keyHash g.w.params (N.fname f) = hs
    generalize Value.str (N.fname f) (s.toks + 1) = ky
    clear h hl c hput h2 In hz
    induction es with
    | nil => simp [putL]
    | cons e r ih =>
      unfold putL
      split
      · simp
      · simp only [List.length_cons]; omega
  dsimp only [dictOf]
  have c' : (!es.toArray.any (·.key.isStr (N.fname f)) && es.toArray.any (·.refKey)) = false := by
    rw [← Array.any_toList, ← Array.any_toList]; exact c
  rw [aRefKeyMayBeTheName_at, c']
  refine wpAny_updatePart (s := { s with toks := s.toks + 1 + 1 }) h2 ?_
  have D' : (s.heap.update d (Obj.putName (N.fname f) (PyData.keyHash g.w.params (N.fname f)) (.str (N.fname f) (s.toks + 1)) v)).get? d = some (dictOf (putL (N.fname f) (PyData.keyHash g.w.params (N.fname f)) (.str (N.fname f) (s.toks + 1)) v es) (putN (N.fname f) es n)) := by
    rw [Heap.get?_update_self _ h2 (by rw [hput]; rfl), hput]
  refine wpAny_bind (wpAny_lookBehind D' (pastItsLine_dict (by rw [List.size_toArray, sizeLine_eq]; omega)) ?_)
  exact wpAny_pure (h (s.toks + 1) _ _ _ (fun b o hb e => (Heap.get?_update_ne _ _ _ _ hb).trans e) D')
end
end Vc
end
section
open PySem PySem.W PyProof.Rows PySem.Calls
set_option autoImplicit false
set_option maxRecDepth 100000
namespace Vc
local macro_rules | `(tactic| walk_at "vs") => `(tactic| first | exact True.intro | exact rfl | omega | (simp only [intBits_nat]; omega) | (simp only [lim, List.length]; omega) | exact IntMulOk.of_left (by decide) | exact Nat.le_of_ble_eq_true rfl)
local macro_rules | `(tactic| walk_at "vg") => `(tactic| ((repeat ((conv => whnf); (try dsimp only [List.set, setvs]); refine And.intro (by walk_at "vs") ?_)); (conv => whnf); (try dsimp only [List.set, setvs])))

/-- all the entries out of eight of them -/
theorem rows_all {T : Nat → Nat} (hx : ∀ a b, T (a ^^^ b) = T a ^^^ T b) (k : Nat) : (List.range (2 ^ k)).map T ++ ((List.range (2 ^ k)).map T).map (T (2 ^ k) ^^^ ·) = (List.range (2 ^ (k + 1))).map T := by
  have e : 2 ^ (k + 1) = 2 ^ k + 2 ^ k := by rw [Nat.pow_succ]; omega
  rw [e, List.range_add, List.map_append]
  congr 1
  rw [List.map_map, List.map_map]
  apply List.map_congr_left
  intro b hb
  have hb := List.mem_range.mp hb
  show T (2 ^ k) ^^^ T b = T (2 ^ k + b)
  rw [← hx]
  congr 1
  have := add_eq_xor (a := b) (b := 1) hb
  rw [Nat.one_mul] at this
  rw [Nat.add_comm, this, Nat.xor_comm]

def ones : List Nat := [1, 2, 4, 8, 16, 32, 64, 128]
def redF (L : LawP) (k : Nat) (args : List SV) (objs : List AO) (K : SV → List AO → Prop) : Prop := spT L (2000 + k) args objs K
theorem red_rows {L : LawP} {lamk : Nat} (hk : spT L (2000 + lamk) = spLam) {T : Nat → Nat} (h0 : T 0 = 0) (hx : ∀ a b, T (a ^^^ b) = T a ^^^ T b) {objs : List AO} {K : SV → List AO → Prop} (h : K (.lst (natsV ((List.range 256).map T))) objs) :
    redW (redF L lamk) (natsV (ones.map T)) (.lst (natsV [0])) objs K := by
  have key : ∀ (m k : Nat) (l : List Nat), l = (List.range m).map (fun j => 2 ^ (k + j)) → k + m ≤ 8 → K (.lst (natsV ((List.range (2 ^ (k + m))).map T))) objs → redW (redF L lamk) (natsV (l.map T)) (.lst (natsV ((List.range (2 ^ k)).map T))) objs K := by
    intro m
    induction m with
    | zero => rintro k l rfl _ h; exact h
    | succ m ih =>
      rintro k l rfl hk8 h
      rw [List.range_succ_eq_map, List.map_cons, List.map_cons]
      show spT L (2000 + lamk) [_, .int (T (2 ^ (k + 0)) : Nat)] _ _
      rw [hk]
      have hlen : ((List.range (2 ^ k)).map T).length ≤ 1000 := by
        rw [List.length_map, List.length_range]
        have : 2 ^ k ≤ 2 ^ 8 := Nat.pow_le_pow_right (by decide) (by omega)
        omega
      refine ⟨_, T (2 ^ k), ⟨rfl, rfl, hlen⟩, ?_⟩
      rw [rows_all hx]
      refine ih (k + 1) _ ?_ (by omega) (by rw [show k + 1 + m = k + (m + 1) by omega]; exact h)
      rw [List.map_map]
      apply List.map_congr_left
      intro j _
      show 2 ^ (k + (j + 1)) = 2 ^ (k + 1 + j)
      congr 1; omega
  have e := key 8 0 ones rfl (by decide) h
  have e0 : (List.range (2 ^ 0)).map T = [0] := by simp [h0]
  rw [e0] at e
  exact e

def nm_mkTable : List (Str × Nat) := [(Str.ofString "poly", 0), (Str.ofString "n", 1), (Str.ofString "mask", 2), (Str.ofString "table", 3)]
def ps_mkTable : List Str := [Str.ofString "poly", Str.ofString "n"]
def onesX : Xs := .cons (.lit (.int 1)) (.cons (.lit (.int 2)) (.cons (.lit (.int 4)) (.cons (.lit (.int 8)) (.cons (.lit (.int 16)) (.cons (.lit (.int 32)) (.cons (.lit (.int 64)) (.cons (.lit (.int 128)) .nil)))))))
def t_s1 : S := .set 2 (.bin .Sub (.bin .LShift (.lit (.int 1)) (.var 1)) (.lit (.int 1)))
def t_s2 : S := .set 0 (.bin .BitAnd (.var 0) (.var 2))
def t_s2r : S := .set 0 (.call (.glob 10) (.cons (.bin .BitAnd (.var 0) (.var 2)) (.cons (.var 1) .nil)))
def t_comp : X := .comp false [(Str.ofString "i", 4), (Str.ofString "n", 1), (Str.ofString "poly", 0)] (.call (.glob 11) (.cons (.bin .LShift (.var 4) (.bin .Sub (.var 1) (.lit (.int 8)))) (.cons (.var 0) (.cons (.var 1) .nil)))) [4] (.tup onesX) .nop
def t_compr : X := .comp false [(Str.ofString "i", 4), (Str.ofString "n", 1), (Str.ofString "poly", 0)] (.call (.glob 12) (.cons (.var 4) (.cons (.var 0) (.cons (.var 1) .nil)))) [4] (.tup onesX) .nop
def t_list : X := .list false (.cons (.lit (.int 0)) .nil)
def t_ret : Ss := .cons (.ret (.var 3)) .nil
/-- a word on reduce(lambda ..) -/
def redCW (F : List SV → List AO → (SV → List AO → Prop) → Prop) (k : Nat) (f : SV) (args : List SV) (objs : List AO) (K : SV → List AO → Prop) : Prop := match f, args with
  | .bi .reduce, [.clo k' [], .lst l, r0] => k' = k ∧ redW F l r0 objs K
  | _, _ => False
def redV (c : C) (F : List SV → List AO → (SV → List AO → Prop) → Prop) (k : Nat) (comp : X) (σ : St) (K : SV → St → Prop) : Prop :=
  wpE c (.glob 113) σ fun vf σ1 => (fun σ (K : List SV → St → Prop) => (fun σ (K : SV → St → Prop) => K (.clo k []) σ) σ fun v σ1 => wpEs c (.cons comp (.cons t_list .nil)) σ1 fun vs σ2 => K (v :: vs) σ2) σ1 fun vs σ2 => redCW F k vf vs σ2.objs fun r objs => K r ⟨σ2.vars, objs⟩
def wTable (c : C) (F : List SV → List AO → (SV → List AO → Prop) → Prop) (k : Nat) (s2 : S) (comp : X) (σ : St) (K : Fl → St → Prop) : Prop :=
  wpS c t_s1 σ fun fl σ1 => match fl with
    | .next => wpS c s2 σ1 fun fl σ2 => (match fl with
      | .next => (redV c F k comp σ2 fun v σ3 => (fun fl σ3 => match fl with
        | .next => wpSs c t_ret σ3 K
        | fl => K fl σ3) Fl.next ⟨σ3.vars.set 3 v, σ3.objs⟩)
      | fl => K fl σ2)
    | fl => K fl σ1

section
variable {L : LawP} {ℓ : Nat} {args : List SV} {objs : List AO} {K : SV → List AO → Prop}
theorem comp_byte {P n : Nat} {m : SV} {K : SV → St → Prop} (hℓ : 1 ≤ ℓ) (hp : IntPre P n) (h : K (.lst (natsV (ones.map fun b => prest (b * 2 ^ n) P))) ⟨[.int (P % 2 ^ n : Nat), .int n, m, .unb, .unb], objs⟩) :
    wpE (cT L ℓ) t_comp ⟨[.int (P % 2 ^ n : Nat), .int n, m, .unb, .unb], objs⟩ K := by
  have hn := hp.hn
  have hP := hp.hP
  show 8 ≤ lim ∧ compW (wpE (cT L ℓ) _) _ [4] _ (natsV ones) [] ⟨[.int (P % 2 ^ n : Nat), .int n, m, .unb, .unb], objs⟩ _
  refine ⟨by decide, ?_⟩
  refine comp_okW (fun i acc σ => acc = natsV ((ones.take i).map fun b => prest (b * 2 ^ n) P) ∧ ∃ z, σ = ⟨[.int (P % 2 ^ n : Nat), .int n, m, .unb, z], objs⟩) ⟨rfl, _, rfl⟩ (fun _ _ _ _ => True.intro) ?_ ?_
  · rintro i x acc σ R hx ⟨rfl, z, rfl⟩ hnx
    obtain ⟨y, hy, rfl⟩ := natsV_get hx
    have hyl : y ≤ 128 := by
      have : ∀ y ∈ ones, y ≤ 128 := by decide
      exact this y (List.mem_of_getElem? hy)
    have hby : bl y ≤ 8 := bl_le.mpr (by omega)
    have hlt : y * 2 ^ (n - 8) < 2 ^ n := by
      have : 2 ^ n = 256 * 2 ^ (n - 8) := by rw [show (256 : Nat) = 2 ^ 8 from rfl, ← Nat.pow_add]; congr 1; omega
      rw [this]
      exact Nat.mul_lt_mul_of_pos_right (by omega) (Nat.two_pow_pos _)
    walk_at "vg"
    refine ⟨hℓ, ?_⟩
    rw [show (n : Int) - 8 = ((n - 8 : Nat) : Int) by omega, shl_nat]
    rw [show spT L 11 = spByte from rfl]
    refine ⟨P, ⟨by omega, by rw [Int.toNat_natCast, pow_int]; exact_mod_cast hlt, by omega, by rw [Int.toNat_natCast]; exact hp, by rw [Int.toNat_natCast]⟩, ?_⟩
    rw [Int.toNat_natCast, Nat.mul_assoc, ← Nat.pow_add, show n - 8 + 8 = n by omega]
    refine hnx _ _ ⟨?_, .int y, rfl⟩
    rw [List.take_add_one, hy]
    simp [natsV]
  · rintro acc σ ⟨rfl, z, rfl⟩
    have hl : ones.take (natsV ones).length = ones := rfl
    rw [hl]
    exact ⟨Nat.le_of_ble_eq_true rfl, h⟩
theorem comp_byter {P n : Nat} {m : SV} {K : SV → St → Prop} (hℓ : 1 ≤ ℓ) (hp : IntPre P n) (h : K (.lst (natsV (ones.map fun b => biter (prev (n + 1) P) 8 b))) ⟨[.int (prev n (P % 2 ^ n) : Nat), .int n, m, .unb, .unb], objs⟩) :
    wpE (cT L ℓ) t_compr ⟨[.int (prev n (P % 2 ^ n) : Nat), .int n, m, .unb, .unb], objs⟩ K := by
  have hn := hp.hn
  have hP := hp.hP
  show 8 ≤ lim ∧ compW (wpE (cT L ℓ) _) _ [4] _ (natsV ones) [] ⟨[.int (prev n (P % 2 ^ n) : Nat), .int n, m, .unb, .unb], objs⟩ _
  refine ⟨by decide, ?_⟩
  refine comp_okW (fun i acc σ => acc = natsV ((ones.take i).map fun b => biter (prev (n + 1) P) 8 b) ∧ ∃ z, σ = ⟨[.int (prev n (P % 2 ^ n) : Nat), .int n, m, .unb, z], objs⟩) ⟨rfl, _, rfl⟩ (fun _ _ _ _ => True.intro) ?_ ?_
  · rintro i x acc σ R hx ⟨rfl, z, rfl⟩ hnx
    obtain ⟨y, hy, rfl⟩ := natsV_get hx
    have hyl : y ≤ 128 := by
      have : ∀ y ∈ ones, y ≤ 128 := by decide
      exact this y (List.mem_of_getElem? hy)
    walk_at "vg"
    refine ⟨hℓ, ?_⟩
    rw [show spT L 12 = spByteR from rfl]
    refine ⟨P, ⟨by omega, by omega, by omega, by rw [Int.toNat_natCast]; exact hp, by rw [Int.toNat_natCast]⟩, ?_⟩
    rw [Int.toNat_natCast, Int.toNat_natCast]
    refine hnx _ _ ⟨?_, .int y, rfl⟩
    rw [List.take_add_one, hy]
    simp [natsV]
  · rintro acc σ ⟨rfl, z, rfl⟩
    have hl : ones.take (natsV ones).length = ones := rfl
    rw [hl]
    exact ⟨Nat.le_of_ble_eq_true rfl, h⟩
theorem prest_zero (P : Nat) : prest 0 P = 0 := by
  unfold prest
  by_cases h : P = 0
  · rw [dif_neg (by simp [h])]
  · have := bl_pos.mpr h
    rw [dif_neg (by rw [bl_zero]; omega)]
theorem biter_zero (o k : Nat) : biter o k 0 = 0 := by
  induction k with
  | zero => rfl
  | succ k ih => rw [biter, show bstep o 0 = 0 by simp [bstep]]; exact ih
theorem vc_mkTable (hℓ : 1 ≤ ℓ) (h : spTable false args objs K) : ∃ P n, args = [.int P, .int n] ∧ wTable (cT L ℓ) (redF L 2) 2 t_s2 t_comp ⟨vars0 args 5, objs⟩ fun fl σ => K (retV fl) σ.objs := by
  unfold spTable at h
  split at h
  · rename_i P n
    obtain ⟨⟨h0, hn0, hp⟩, h⟩ := h
    refine ⟨_, _, rfl, ?_⟩
    obtain ⟨P, rfl⟩ := Int.eq_ofNat_of_zero_le h0
    obtain ⟨n, rfl⟩ := Int.eq_ofNat_of_zero_le hn0
    simp only [Int.toNat_natCast] at h hp
    have hn := hp.hn
    have hP := hp.hP
    have hp0 : P ≠ 0 := by rintro rfl; rw [bl_zero] at hP; omega
    have i1 : Builtin.Int.intBits 1 = 1 := rfl
    have hcx := fun m K => comp_byte (L := L) (ℓ := ℓ) (objs := objs) (P := P) (n := n) (m := m) (K := K) hℓ hp
    generalize t_comp = cx at *
    walk_at "vg"
    rw [mask_int]
    refine hcx _ _ ?_
    conv => whnf
    refine And.intro (by walk_at "vs") ?_
    conv => whnf
    refine And.intro rfl ?_
    refine red_rows rfl (T := fun b => prest (b * 2 ^ n) P) ?_ ?_ ?_
    · show prest (0 * 2 ^ n) P = 0
      rw [Nat.zero_mul, prest_zero]
    · intro a b
      show prest ((a ^^^ b) * 2 ^ n) P = _
      rw [xor_shl, prest_xor hp0]
    · walk_at "vg"
      have : (SV.lst (natsV ((List.range 256).map fun b => prest (b * 2 ^ n) P))) = tabOf false P n := by
        unfold tabOf natsV
        rw [List.map_map]; rfl
      rw [this]
      exact h
  · exact h.elim
theorem vc_mkTable_r (hℓ : 1 ≤ ℓ) (h : spTable true args objs K) : ∃ P n, args = [.int P, .int n] ∧ wTable (cT L ℓ) (redF L 3) 3 t_s2r t_compr ⟨vars0 args 5, objs⟩ fun fl σ => K (retV fl) σ.objs := by
  unfold spTable at h
  split at h
  · rename_i P n
    obtain ⟨⟨h0, hn0, hp⟩, h⟩ := h
    refine ⟨_, _, rfl, ?_⟩
    obtain ⟨P, rfl⟩ := Int.eq_ofNat_of_zero_le h0
    obtain ⟨n, rfl⟩ := Int.eq_ofNat_of_zero_le hn0
    simp only [Int.toNat_natCast] at h hp
    have hn := hp.hn
    have hP := hp.hP
    have hp0 : P ≠ 0 := by rintro rfl; rw [bl_zero] at hP; omega
    have i1 : Builtin.Int.intBits 1 = 1 := rfl
    have hbp : bl (P % 2 ^ n) ≤ n := bl_le.mpr (Nat.mod_lt _ (Nat.two_pow_pos n))
    have hcx := fun m K => comp_byter (L := L) (ℓ := ℓ) (objs := objs) (P := P) (n := n) (m := m) (K := K) hℓ hp
    generalize t_compr = cx at *
    have ho : prev (n + 1) P % 2 = 1 := by
      have : (prev (n + 1) P).testBit 0 = true := by
        rw [prev_bit]
        have := testBit_top hp0
        rw [hP] at this
        simpa using this
      rw [Nat.testBit_zero] at this
      simpa using this
    walk_at "vg"
    rw [mask_int]
    refine ⟨hℓ, ?_⟩
    rw [show spT L 10 = spRev from rfl]
    refine ⟨⟨by omega, by rw [Int.toNat_natCast]; omega, by omega, by omega⟩, ?_⟩
    rw [Int.toNat_natCast, Int.toNat_natCast]
    walk_at "vg"
    refine hcx _ _ ?_
    conv => whnf
    refine And.intro (by walk_at "vs") ?_
    conv => whnf
    refine And.intro rfl ?_
    refine red_rows rfl (T := fun b => biter (prev (n + 1) P) 8 b) ?_ ?_ ?_
    · exact biter_zero _ _
    · intro a b
      exact biter_xor ho 8 a b
    · walk_at "vg"
      have : (SV.lst (natsV ((List.range 256).map fun b => biter (prev (n + 1) P) 8 b))) = tabOf true P n := by
        unfold tabOf natsV
        rw [List.map_map]; rfl
      rw [this]
      exact h
  · exact h.elim
end
end Vc
end
section
open PySem PySem.W PyProof.Rows PySem.Calls
set_option autoImplicit false
set_option maxRecDepth 100000
namespace Vc
local macro_rules | `(tactic| walk_at "vs") => `(tactic| first | exact True.intro | exact rfl | omega | (simp only [intBits_nat]; omega) | (simp only [lim, List.length]; omega) | exact IntMulOk.of_left (by decide) | exact Nat.le_of_ble_eq_true rfl)
local macro_rules | `(tactic| walk_at "vg") => `(tactic| ((repeat ((conv => whnf); (try dsimp only [List.set, setvs]); refine And.intro (by walk_at "vs") ?_)); (conv => whnf); (try dsimp only [List.set, setvs])))

def nm_mkCrcFun : List (Str × Nat) := [(Str.ofString "poly", 0), (Str.ofString "sizeBits", 1), (Str.ofString "initCrc", 2), (Str.ofString "rev", 3), (Str.ofString "xorOut", 4), (Str.ofString "tableList", 5), (Str.ofString "_fun", 6), (Str.ofString "_table", 7), (Str.ofString "crcfun", 8)]
def ps_mkCrcFun : List Str := [Str.ofString "poly", Str.ofString "sizeBits", Str.ofString "initCrc", Str.ofString "rev", Str.ofString "xorOut"]
def m_s1 : S := .ite (.var 3)
  (.cons (.set 5 (.call (.glob 14) (.cons (.var 0) (.cons (.var 1) .nil)))) (.cons (.set 6 (.sub (.sub (.glob 112) (.var 1)) (.lit (.int 1)))) .nil))
  (.cons (.set 5 (.call (.glob 13) (.cons (.var 0) (.cons (.var 1) .nil)))) (.cons (.set 6 (.sub (.sub (.glob 112) (.var 1)) (.lit (.int 0)))) .nil))
def m_s2 : S := .set 7 (.var 5)
def m_t : X := .cmp (.var 4) .Eq (.lit (.int 0))
def m_ret : Ss := .cons (.ret (.tup (.cons (.var 8) (.cons (.var 5) .nil)))) .nil
def m_dfl : Xs := .cons (.var 2) (.cons (.var 7) (.cons (.var 6) .nil))
def wDef (c : C) (k : Nat) (is : List Nat) (σ : St) (K : Fl → St → Prop) : Prop :=
  wpEs c m_dfl σ fun dvs σ1 => match capV σ1.vars is with | some vs => K .next ⟨σ1.vars.set 8 (.clo k (vs ++ dvs)), σ1.objs⟩ | none => False
def wOne (W : St → (Fl → St → Prop) → Prop) (σ : St) (K : Fl → St → Prop) : Prop := W σ fun fl σ1 => match fl with
  | .next => K .next σ1
  | fl => K fl σ1
def wMkFun (c : C) (σ : St) (K : Fl → St → Prop) : Prop :=
  wpS c m_s1 σ fun fl σ1 => match fl with
    | .next => wpS c m_s2 σ1 fun fl σ2 => (match fl with
      | .next => (wpT c m_t (wpE c m_t) σ2 fun z σ3 => if z then wOne (wDef c 0 []) σ3 fun fl σ4 => (match fl with
          | .next => wpSs c m_ret σ4 K
          | fl => K fl σ4) else wOne (wDef c 1 [4]) σ3 fun fl σ4 => (match fl with
          | .next => wpSs c m_ret σ4 K
          | fl => K fl σ4))
      | fl => K fl σ2)
    | fl => K fl σ1
section
variable {L : LawP} {ℓ : Nat} {args : List SV} {objs : List AO} {K : SV → List AO → Prop}
theorem sizeMap_sub {n : Nat} {objs : List AO} {K : SV → Prop} (hn : n = 8 ∨ n = 16 ∨ n = 24 ∨ n = 32) (h : K (.lst [.fn (crcNo false n), .fn (crcNo true n)])) : subW sizeMapV (.int (n : Nat)) objs K := by
  rcases hn with rfl | rfl | rfl | rfl <;> exact h
theorem vc_mkCrcFun (hℓ : 3 ≤ ℓ) (h : spMkFun args objs K) : ∃ P n a r b, args = [.int P, .int n, .int a, .bool r, .int b] ∧ wMkFun (cT L ℓ) ⟨vars0 args 9, objs⟩ fun fl σ => K (retV fl) σ.objs := by
  unfold spMkFun at h
  split at h
  · rename_i P n a back b
    obtain ⟨⟨h0, h1, h2, h3, hp⟩, h⟩ := h
    refine ⟨_, _, _, _, _, rfl, ?_⟩
    obtain ⟨P, rfl⟩ := Int.eq_ofNat_of_zero_le h0
    obtain ⟨n, rfl⟩ := Int.eq_ofNat_of_zero_le h1
    obtain ⟨a, rfl⟩ := Int.eq_ofNat_of_zero_le h2
    obtain ⟨b, rfl⟩ := Int.eq_ofNat_of_zero_le h3
    simp only [Int.toNat_natCast] at h hp
    have hn := hp.hn
    have key : ∀ T : SV, T = tabOf back P n → wpS (cT L ℓ) m_s2 ⟨[.int P, .int n, .int a, .bool back, .int b, T, .fn (crcNo back n), .unb, .unb], objs⟩ fun fl σ2 => (match fl with
      | .next => (wpT (cT L ℓ) m_t (wpE (cT L ℓ) m_t) σ2 fun z σ3 => if z then wOne (wDef (cT L ℓ) 0 []) σ3 fun fl σ4 => (match fl with
          | .next => wpSs (cT L ℓ) m_ret σ4 fun fl σ => K (retV fl) σ.objs
          | fl => K (retV fl) σ4.objs) else wOne (wDef (cT L ℓ) 1 [4]) σ3 fun fl σ4 => (match fl with
          | .next => wpSs (cT L ℓ) m_ret σ4 fun fl σ => K (retV fl) σ.objs
          | fl => K (retV fl) σ4.objs))
      | fl => K (retV fl) σ2.objs) := by
      intro T hT
      have hT' := hT
      rw [tabOf_eq] at hT'
      generalize tabL back P n = tl at hT'
      subst hT'
      walk_at "vg"
      unfold Cfg.clo at h
      simp only at h
      by_cases hb : b = 0
      · rw [if_pos hb, ← hT] at h
        refine drec ?_ ?_
        · intro _
          walk_at "vg"
          exact h
        · intro hc; exact (hc (decide_eq_true (by omega))).elim
      · rw [if_neg hb, ← hT] at h
        refine drec ?_ ?_
        · intro hc
          rw [decide_eq_true_eq] at hc
          omega
        · intro _
          walk_at "vg"
          exact h
    cases back with
    | true =>
      walk_at "vg"
      refine ⟨hℓ, ?_⟩
      rw [show spT L 14 = spTable true from rfl]
      refine ⟨⟨by omega, by omega, by rw [Int.toNat_natCast, Int.toNat_natCast]; exact hp⟩, ?_⟩
      rw [Int.toNat_natCast, Int.toNat_natCast]
      refine sizeMap_sub (objs := objs) hn ?_
      have key := key _ rfl
      generalize m_s2 = s2 at *
      walk_at "vg"
      exact key
    | false =>
      walk_at "vg"
      refine ⟨hℓ, ?_⟩
      rw [show spT L 13 = spTable false from rfl]
      refine ⟨⟨by omega, by omega, by rw [Int.toNat_natCast, Int.toNat_natCast]; exact hp⟩, ?_⟩
      rw [Int.toNat_natCast, Int.toNat_natCast]
      refine sizeMap_sub (objs := objs) hn ?_
      have key := key _ rfl
      generalize m_s2 = s2 at *
      walk_at "vg"
      exact key
  · exact h.elim
end
end Vc
end
section
open PySem PySem.W PyProof.Rows PySem.Calls
set_option autoImplicit false
set_option maxRecDepth 100000
namespace Vc
/-- keys of a written dict, its hashes right -/
def dctCk : List Int → List DictEntry → Bool
  | [], [] => true
  | k :: ks, e :: es => (match e.key with | .int j _ => j == k | _ => false) && e.hash == hashInt k && dctCk ks es
  | _, _ => false
section
variable (K : Frag) (g : G)
mutual
def repCk : SV → Value → Bool
  | .none, v => v == .none
  | .bool b, v => v == .bool b
  | .int i, v => (match v with | .int j _ => i == j | _ => false)
  | .bytes b, v => (match v with | .bytes a _ => b.all (fun x => decide (x < 256)) && a == bObj b | _ => false)
  | .tup l, v => (match v with
    | .ref a => (match K.lookup a with
      | some o => o.cls == .type "tuple" && o.dict == none && o.slots.isEmpty && (match o.data with | .seq xs _ => repCkL l xs.toList | _ => false)
      | none => false)
    | _ => false)
  | .lst l, v => (match v with
    | .ref a => (match K.lookup a with
      | some o => o.cls == .type "list" && o.dict == none && o.slots.isEmpty && (match o.data with | .seq xs _ => repCkL l xs.toList | _ => false)
      | none => false)
    | _ => false)
  | .dct ks l, v => (match v with
    | .ref a => (match K.lookup a with
      | some o => o.cls == .type "dict" && o.dict == none && o.slots.isEmpty && (match o.data with | .dict es _ => dctCk ks es.toList && repCkL l (es.toList.map (·.val)) | _ => false)
      | none => false)
    | _ => false)
  | .fn k, v => v == .ref (g.faddr k)
  | .cls k, v => v == .ref (g.caddr k)
  | .bi b, v => v == .builtin b.id
  | .ty t, v => v == .type t.name
  | _, _ => false
def repCkL : List SV → List Value → Bool
  | [], vs => vs.isEmpty
  | x :: r, vs => (match vs with | v :: vr => repCk x v && repCkL r vr | [] => false)
end
end

section
variable {K : Frag} {g : G}
theorem fz_K (X : K.In g.h₀) (ht : ∀ a ∈ g.tabs, g.h₀.get? a = none) {a : Addr} {o : Obj} (e : K.lookup a = some o) : Fz g [] [] g.h₀ a o := by
  have h := X a o e
  refine ⟨h, ?_⟩
  rw [mem_mt]
  rintro (q | q | q)
  · cases q
  · simp [adr] at q
  · rw [ht a q] at h; cases h
theorem arr_nil {α : Type} {a : Array α} (h : a.isEmpty = true) : a = #[] := by simpa using h
theorem dct_find : ∀ {ks : List Int} {es : List DictEntry}, dctCk ks es = true → ∀ k : Int, (es.find? fun e => Value.isInt k e.key).map (·.val) = (ks.zip (es.map (·.val))).lookup k
  | [], [], _, k => rfl
  | [], _ :: _, h, _ => by simp [dctCk] at h
  | _ :: _, [], h, _ => by simp [dctCk] at h
  | j :: ks, e :: es, h, k => by
    simp only [dctCk, Bool.and_eq_true] at h
    obtain ⟨⟨h1, h2⟩, h3⟩ := h
    split at h1
    · rename_i i t hk
      have : i = j := by simpa using h1
      subst this
      rw [List.find?_cons, List.map_cons, List.zip_cons_cons, List.lookup_cons]
      have hb : Value.isInt k e.key = (k == i) := by
        rw [hk]
        show (i == k) = (k == i)
        by_cases q : i = k
        · subst q; rfl
        · rw [beq_eq_false_iff_ne.mpr q, beq_eq_false_iff_ne.mpr (Ne.symm q)]
      rw [hb]
      cases k == i with
      | true => rfl
      | false => exact dct_find h3 k
    · cases h1
theorem dct_keys : ∀ {ks : List Int} {es : List DictEntry}, dctCk ks es = true → ∀ e ∈ es, ∃ k t, e.key = .int k t ∧ e.hash = hashInt k
  | [], [], _, e, he => by simp at he
  | [], _ :: _, h, _, _ => by simp [dctCk] at h
  | _ :: _, [], h, _, _ => by simp [dctCk] at h
  | j :: ks, e :: es, h, x, hx => by
    simp only [dctCk, Bool.and_eq_true] at h
    obtain ⟨⟨h1, h2⟩, h3⟩ := h
    rcases List.mem_cons.mp hx with rfl | hx
    · split at h1
      · rename_i i t hk
        have : i = j := by simpa using h1
        subst this
        exact ⟨i, t, hk, by simpa using h2⟩
      · cases h1
    · exact dct_keys h3 x hx
mutual
theorem rep_of (X : K.In g.h₀) (ht : ∀ a ∈ g.tabs, g.h₀.get? a = none) : ∀ (x : SV) (v : Value), repCk K g x v = true → Rep g [] [] g.h₀ x v
  | .unb, _, h => by simp [repCk] at h
  | .none, _, h => by simp only [repCk, beq_iff_eq] at h; exact h
  | .bool _, _, h => by simp only [repCk, beq_iff_eq] at h; exact h
  | .int i, v, h => by
    simp only [repCk] at h
    split at h
    · rename_i j t
      have : i = j := by simpa using h
      subst this; exact ⟨t, rfl⟩
    · cases h
  | .str _, _, h => by simp [repCk] at h
  | .bytes b, v, h => by
    simp only [repCk] at h
    split at h
    · rename_i a t
      simp only [Bool.and_eq_true, List.all_eq_true, decide_eq_true_eq, beq_iff_eq] at h
      exact ⟨h.1, t, by rw [h.2]⟩
    · cases h
  | .tup l, v, h => by
    simp only [repCk] at h
    split at h
    · rename_i a
      split at h
      · rename_i o ho
        simp only [Bool.and_eq_true, beq_iff_eq] at h
        obtain ⟨⟨⟨h1, h2⟩, h3⟩, h4⟩ := h
        split at h4
        · rename_i xs n hd
          refine ⟨a, xs.toList, n, rfl, ?_, repL_of X ht l xs.toList h4⟩
          have : o = tupObj xs.toList n := by
            obtain ⟨c, d, dt, sl⟩ := o
            simp only at h1 h2 h3 hd
            subst h1 h2 hd
            rw [arr_nil h3]
          rw [← this]
          exact fz_K X ht ho
        · cases h4
      · cases h
    · cases h
  | .lst l, v, h => by
    simp only [repCk] at h
    split at h
    · rename_i a
      split at h
      · rename_i o ho
        simp only [Bool.and_eq_true, beq_iff_eq] at h
        obtain ⟨⟨⟨h1, h2⟩, h3⟩, h4⟩ := h
        split at h4
        · rename_i xs n hd
          refine ⟨a, xs.toList, n, rfl, ?_, repL_of X ht l xs.toList h4⟩
          have : o = lstObj xs.toList n := by
            obtain ⟨c, d, dt, sl⟩ := o
            simp only at h1 h2 h3 hd
            subst h1 h2 hd
            rw [arr_nil h3]
          rw [← this]
          exact fz_K X ht ho
        · cases h4
      · cases h
    · cases h
  | .dct ks l, v, h => by
    simp only [repCk] at h
    split at h
    · rename_i a
      split at h
      · rename_i o ho
        simp only [Bool.and_eq_true, beq_iff_eq] at h
        obtain ⟨⟨⟨h1, h2⟩, h3⟩, h4⟩ := h
        split at h4
        · rename_i es n hd
          simp only [Bool.and_eq_true] at h4
          refine ⟨a, es.toList.map (·.val), rfl, ⟨o, fz_K X ht ho, fun h' e => ?_⟩, repL_of X ht l _ h4.2⟩
          refine ⟨o, es, n, e, ⟨h1, h2, arr_nil h3⟩, hd, fun x hx => ?_, fun k => ?_⟩
          · obtain ⟨k, t, e1, e2⟩ := dct_keys h4.1 x (Array.mem_toList_iff.mpr hx)
            exact ⟨k, by rw [e1]; simp [PySem.intKind, Value.isInt], e2⟩
          · have := dct_find h4.1 k
            refine Eq.trans ?_ this
            unfold findBy
            rw [← Array.find?_toList]
            rfl
        · simp at h4
      · cases h
    · cases h
  | .rng .., _, h => by simp [repCk] at h
  | .ref _, _, h => by simp [repCk] at h
  | .fn _, _, h => by simp only [repCk, beq_iff_eq] at h; exact h
  | .clo .., _, h => by simp [repCk] at h
  | .bi _, _, h => by simp only [repCk, beq_iff_eq] at h; exact h
  | .ty _, _, h => by simp only [repCk, beq_iff_eq] at h; exact h
  | .cls _, _, h => by simp only [repCk, beq_iff_eq] at h; exact h
theorem repL_of (X : K.In g.h₀) (ht : ∀ a ∈ g.tabs, g.h₀.get? a = none) : ∀ (l : List SV) (vs : List Value), repCkL K g l vs = true → RepL g [] [] g.h₀ l vs
  | [], vs, h => by simp only [repCkL, List.isEmpty_iff] at h; exact h
  | x :: r, vs, h => by
    simp only [repCkL] at h
    split at h
    · rename_i v vr
      simp only [Bool.and_eq_true] at h
      exact ⟨v, vr, rfl, rep_of X ht x v h.1, repL_of X ht r vr h.2⟩
    · cases h
end

/-- a global name's value, by the written part -/
def globCk (K : Frag) (g : G) (gl : Nat → SV) (p : Nat × String) : Bool := match nsIn K mainGlobals (Str.ofString p.2) with
  | some (some v) => repCk K g (gl p.1) v
  | some none => Str.ofString p.2 != ("__name__" : Str) && (match bootBuiltins (Str.ofString p.2) with
    | some v => repCk K g (gl p.1) v
    | none => false)
  | none => false
theorem glob_of {mg mb : Str → Option Value} {gl : Nat → SV} {p : Nat × String} (X : K.In g.h₀) (ht : ∀ a ∈ g.tabs, g.h₀.get? a = none) (hg : g.h₀.Ns mainGlobals mg) (hb : ∀ x : Str, x ≠ "__name__" → mb x = bootBuiltins x) (h : globCk K g gl p = true) :
    ∃ v, (mg (Str.ofString p.2) = some v ∨ (mg (Str.ofString p.2) = none ∧ mb (Str.ofString p.2) = some v)) ∧ Rep g [] [] g.h₀ (gl p.1) v := by
  unfold globCk at h
  split at h
  · rename_i v e
    exact ⟨v, .inl (mg_of X hg e), rep_of X ht _ _ h⟩
  · rename_i e
    simp only [Bool.and_eq_true, bne_iff_ne, ne_eq] at h
    obtain ⟨hn, h⟩ := h
    split at h
    · rename_i v hv
      exact ⟨v, .inr ⟨mg_none_of X hg e, (hb _ hn).trans hv⟩, rep_of X ht _ _ h⟩
    · cases h
  · cases h
end
end Vc
end
section
open PySem PySem.W PyProof.Rows PySem.Calls
set_option autoImplicit false
set_option maxRecDepth 100000
set_option linter.unusedVariables false
namespace Vc
/-- a function of the written part, looked at -/
structure FnK0 (K : Frag) (a : Addr) (nm : List (Str × Nat)) (ps : List Str) (o : Obj) (fd : FuncData) (body : List Stmt) : Prop where
  at_ : K.lookup a = some o
  dat : o.data = .func fd
  body : fd.body = .stmts body
  co : fd.scope.isCoroutine = false
  gen : fd.scope.isGenerator = false
  clos : fd.closure = []
  glob : fd.globals = mainGlobals
  blt : fd.builtins = builtinsNs
  code : codeIn K fd.code fd.qualname = true
  ent : entCk fd.scope nm ps = true
def FnK (K : Frag) (N : Nms) (a : Addr) (nm : List (Str × Nat)) (ps : List Str) (X : Ss) : Prop :=
  ∃ o fd body, FnK0 K a nm ps o fd body ∧ ckSs N (fun x => fd.scope.names.lookup x) nm (wrOf fd.scope nm) X body = true ∧ ∀ vals : List Value, vals.length = ps.length → bindArgs fd ⟨vals, []⟩ = pure (ps.zip vals)

structure Setup (K : Frag) (g : G) (N : Nms) (L : LawP) : Prop where
  O : KOk K g N (cT L 0)
  ht : ∀ a ∈ g.tabs, g.h₀.get? a = none
  glob : g.h₀.Ns mainGlobals g.mg
  blt : g.h₀.Ns builtinsNs g.mb
  boots : ∀ x : Str, x ≠ "__name__" → g.mb x = bootBuiltins x
  nolim : g.h₀.NoLimit
  names : ∀ k x, N.gn k = some x → ∃ p : Nat × String, p.1 = k ∧ Str.ofString p.2 = x ∧ globCk K g (glT L) p = true
  hN : ∀ j, N.fname j = g.fname j
  hinj : ∀ f j, f < 9 → g.fname j = g.fname f → j = f
  bm : BMain g

section
variable {K0 : Frag} {g : G} {N : Nms} {L : LawP} {ℓ ℓ' k : Nat} {nm : List (Str × Nat)} {ps : List Str} {X : Ss} {args dfl : List SV} {objs : List AO} {K : SV → List AO → Prop} {f : SV}
theorem CallOk.mono (h : CallOk g ℓ f args objs K) (hl : ℓ ≤ ℓ') : CallOk g ℓ' f args objs K :=
  fun A os ad s fv vals hA I rf r => h A os ad s fv vals ⟨hA.1, by have := hA.2.1; omega, by have := hA.2.2; omega⟩ I rf r
theorem KOk.lev {c c' : C} (O : KOk K0 g N c) (h1 : c'.mc = c.mc) (h2 : c'.mi = c.mi) : KOk K0 g N c' := ⟨O.X, O.base, O.fld, by rw [h1, h2]; exact O.meth, O.apart⟩
theorem Setup.G0 (S : Setup K0 g N L) (ℓ : Nat) : GOk g N (cT L ℓ) :=
  ⟨S.glob, S.blt, S.nolim, S.ht, fun k x h => by
    obtain ⟨p, rfl, rfl, hc⟩ := S.names k x h
    exact glob_of S.O.X S.ht S.glob S.boots hc⟩
theorem fn_of_K {nv : Nat} (S : Setup K0 g N L) (F : FnK K0 N (g.faddr k) nm ps X) (Sp : SpOk g N (cT L ℓ) ℓ) (hl : args.length = ps.length) (w : wpSs (cT L ℓ) X ⟨vars0 args nv, objs⟩ fun fl σ => K (retV fl) σ.objs) : CallOk g (ℓ + 1) (.fn k) args objs K := by
  obtain ⟨o, fd, body, F0, hX, hb⟩ := F
  refine fn_ok (dfl := []) (nv := nv) (S.G0 ℓ) Sp S.hN S.hinj (S.O.X _ _ F0.at_) F0.dat F0.body F0.co F0.gen F0.clos F0.glob F0.blt (codeRec_of S.O.X F0.code) F0.ent hX (fun s vals _ hv => ⟨[], ?_, fun os ad _ => RepL.nil⟩) (by simpa using hl) (by simpa using w)
  rw [List.append_nil]
  exact BindsTo.of_eq (hb vals (by rw [hv, hl]))
theorem law_of_K {nv : Nat} (S : Setup K0 g N L) (F : FnK K0 N (g.faddr k) nm ps X) (Sp : SpOk g N (cT L ℓ) ℓ) (hl : args.length = ps.length) (w : wpSs (cT L ℓ) X ⟨vars0 args nv, objs⟩ fun fl σ => K (retV fl) σ.objs)
    {A : Around} {os : List Addr} {ad : AD} {s : Shared} {vals : List Value} {R : Result → Shared → Prop} (hA : AOk A (ℓ + 1)) (I : InvH g os ad objs s) (r : RepL g os ad s.heap args vals)
    (post : ∀ v r objs' ad' s', K r objs' → Rep g os ad' s'.heap r v → InvH g os ad' objs' s' → Step g [] ad s ad' s' → R (.ok (.ret v)) s') : codeAny (model g.prog g.w) A (.call (.ref (g.faddr k)) ⟨vals, []⟩) R s := by
  obtain ⟨o, fd, body, F0, hX, hb⟩ := F
  exact fn_codeA (nv := nv) (S.G0 ℓ) (S.O.X _ _ F0.at_) F0.dat F0.body F0.co F0.gen F0.clos F0.glob F0.blt (codeRec_of S.O.X F0.code) F0.ent
    (fun env hsc _ _ => okSs (S.G0 ℓ) Sp S.hN S.hinj X body _ nm _ env (kdOk_of hsc) hX) (BindsTo.of_eq (hb vals (by rw [r.length, hl]))) hl w hA I r post

/-- __init__: its last argument has a default -/
def InitK (K : Frag) (N : Nms) (a : Addr) : Prop := ∃ o fd body, FnK0 K a nm_Crc_init ps_Crc_init o fd body ∧ ckSs N (fun x => fd.scope.names.lookup x) nm_Crc_init (wrOf fd.scope nm_Crc_init) x_Crc_init body = true ∧
  (∀ s : Shared, K.In s.heap → ∀ v1 v2 v3 v4 v5 : Value, BindsTo s fd ⟨[v1, v2, v3, v4, v5], []⟩ (ps_Crc_init.zip [v1, v2, v3, v4, v5, .bool true])) ∧
  ∃ t t', ∀ s : Shared, K.In s.heap → ∀ v1 v2 v6 : Value, BindsTo s fd ⟨[v1], [(Str.ofString "poly", v2), (Str.ofString "initialize", v6)]⟩ (ps_Crc_init.zip [v1, v2, .int (-1) t, .bool true, .int 0 t', v6])
theorem init_ok (S : Setup K0 g N L) (F : InitK K0 N (g.faddr 17)) (Sp : SpOk g N (cT L 4) 4) (h : spInit args objs K) : CallOk g 5 (.fn 17) args objs K := by
  obtain ⟨o, fd, body, F0, hX, hb, _⟩ := F
  obtain ⟨i, P, a, b, c, rfl, w⟩ := vc_init (L := L) (ℓ := 4) (by decide) h
  refine fn_ok (dfl := [.bool true]) (nv := nv_Crc_init) (S.G0 4) Sp S.hN S.hinj (S.O.X _ _ F0.at_) F0.dat F0.body F0.co F0.gen F0.clos F0.glob F0.blt (codeRec_of S.O.X F0.code) F0.ent hX (fun s vals hk hv => ⟨[.bool true], ?_, fun os ad _ => RepL.one rfl⟩) rfl w
  match vals, hv with
  | [v1, v2, v3, v4, v5], _ => exact hb s (S.O.X.keeps hk) v1 v2 v3 v4 v5

theorem init_code (S : Setup K0 g N L) (F : InitK K0 N (g.faddr 17)) (Sp : SpOk g N (cT L 4) 4) (h : spInit args objs K) {A : Around} {os : List Addr} {ad : AD} {s : Shared} {vals : List Value} {R : Result → Shared → Prop} (hA : AOk A 5) (I : InvH g os ad objs s) (r : RepL g os ad s.heap args vals)
    (post : ∀ v r objs' ad' s', K r objs' → Rep g os ad' s'.heap r v → InvH g os ad' objs' s' → Step g [] ad s ad' s' → R (.ok (.ret v)) s') : codeAny (model g.prog g.w) A (.call (.ref (g.faddr 17)) ⟨vals, []⟩) R s := by
  obtain ⟨o, fd, body, F0, hX, hb, _⟩ := F
  obtain ⟨i, P, a, b, c, rfl, w⟩ := vc_init (L := L) (ℓ := 4) (by decide) h
  refine fn_code (dfl := [.bool true]) (nv := nv_Crc_init) (S.G0 4) (S.O.X _ _ F0.at_) F0.dat F0.body F0.co F0.gen F0.clos F0.glob F0.blt (codeRec_of S.O.X F0.code) F0.ent (fun env hsc _ _ => okSs (S.G0 4) Sp S.hN S.hinj x_Crc_init body _ _ _ env (kdOk_of hsc) hX)
    (fun s vals hk hv => ⟨[.bool true], ?_, fun os ad _ => RepL.one rfl⟩) rfl w hA I r post
  match vals, hv with
  | [v1, v2, v3, v4, v5], _ => exact hb s (S.O.X.keeps hk) v1 v2 v3 v4 v5

/-- what the written part says of the classes -/
structure ClsK (K : Frag) (g : G) : Prop where
  mk0 : makesIn K (g.caddr 0) = true
  init0 : findIn K (.ref (g.caddr 0)) "__init__" = some (some (.builtin "object.__init__"))
  mk1 : makesIn K (g.caddr 1) = true
  init1 : findIn K (.ref (g.caddr 1)) "__init__" = some (some (.ref (g.faddr 17)))
  fn17 : typeIn K (.ref (g.faddr 17)) = some (.type "function")
  keep0 : keepIn K (.ref (g.caddr 0)) = true
  keep1 : keepIn K (.ref (g.caddr 1)) = true
theorem mk_ok (S : Setup K0 g N L) (Q : ClsK K0 g) (h : spMk args objs K) : CallOk g 1 (.cls 0) args objs K := by
  unfold spMk at h
  split at h
  · intro A os ad s fv vals hA I rf r
    have : fv = .ref (g.caddr 0) := rf
    subst this
    have hv : vals = [] := r
    subst hv
    refine ⟨keeps_K Q.keep0 _ (S.O.X.keeps I.base), fun Qq E post => wpAny_call (cls_code0 S.O.X Q.mk0 Q.init0 I fun x d s' H St => ?_)⟩
    refine post _ _ _ _ _ h ⟨(x, some d), ?_, rfl⟩ H St
    rw [← I.objs.1, List.getElem?_append_right (Nat.le_refl _)]; simp
  · exact h.elim
theorem make_ok (S : Setup K0 g N L) (Q : ClsK K0 g) (F : InitK K0 N (g.faddr 17)) (Sp : SpOk g N (cT L 4) 4) (h : spMake args objs K) : CallOk g 6 (.cls 1) args objs K := by
  unfold spMake at h
  split at h
  · rename_i P a back b
    obtain ⟨n, hp, h⟩ := h
    intro A os ad s fv vals hA I rf r
    have : fv = .ref (g.caddr 1) := rf
    subst this
    refine ⟨keeps_K Q.keep1 _ (S.O.X.keeps I.base), fun Qq E post => wpAny_call (cls_code (ℓ := 5) S.O.X Q.mk1 Q.init1 Q.fn17 hA I fun A' x d s' hA' H St => ?_)⟩
    have hi : spInit [.ref objs.length, .int P, .int a, .bool back, .int b] (objs ++ [.inst 1 []]) (fun r objs' => r = .none ∧ K (.ref objs.length) objs') := by
      refine ⟨n, hp, get_last _ _, fun objs' hk hc => ⟨rfl, h objs' ⟨Nat.le_trans (by simp) hk.1, fun j hj hne => ?_⟩ hc⟩⟩
      rw [hk.2 j (by simp; omega) hne, List.getElem?_append_left hj]
    have st := St.stays (os := os) (by simp)
    have rx : Rep g os (ad ++ [(x, some d)]) s'.heap (.ref objs.length) (.ref x) := ⟨(x, some d), by rw [← I.objs.1, List.getElem?_append_right (Nat.le_refl _)]; simp, rfl⟩
    refine init_code S F Sp hi hA' H (RepL.cons rx (RepL.stays st _ _ r)) fun v r' objs' ad' s'' hk hr I' S' => ?_
    obtain ⟨rfl, hk⟩ := hk
    have hv : v = .none := hr
    refine ⟨hv, ?_⟩
    have st2 := S'.stays (os := os) (by simp)
    exact post _ _ _ _ _ hk (Rep.stays st2 _ _ rx) I' (Step.trans I (by simp) H St S')
  · exact h.elim
end
end Vc
end
section
open PySem PySem.W PyProof.Rows PySem.Calls
set_option autoImplicit false
set_option maxRecDepth 100000
set_option linter.unusedVariables false
namespace Vc
section
variable {K0 : Frag} {g : G} {N : Nms} {L : LawP} {ℓ ℓ' k : Nat} {nm : List (Str × Nat)} {ps : List Str} {X : Ss} {args dfl : List SV} {objs : List AO} {K : SV → List AO → Prop} {f : SV} {env : Env}
theorem vc_init0 {i : Nat} {K : Fl → St → Prop} (h : ∀ vars, K (.ret .none) ⟨vars, objs⟩) : wpSs (cT L ℓ) x_Crc_init ⟨vars0 [.ref i, .none, .int (-1), .bool true, .int 0, .bool false] 9, objs⟩ K := h _
theorem AOk.less {A : Around} (h : AOk A ℓ') (hl : ℓ ≤ ℓ') : AOk A ℓ := ⟨h.1, by have := h.2.1; omega, by have := h.2.2; omega⟩
theorem init0_code (S : Setup K0 g N L) (F : InitK K0 N (g.faddr 17)) (Sp : SpOk g N (cT L 0) 0) {i : Nat} {A : Around} {os : List Addr} {ad : AD} {s : Shared} {x : Addr} {R : Result → Shared → Prop} (hA : AOk A 1) (I : InvH g os ad objs s) (r : Rep g os ad s.heap (.ref i) (.ref x))
    (post : ∀ s' ad', InvH g os ad' objs s' → Step g [] ad s ad' s' → R (.ok (.ret .none)) s') : codeAny (model g.prog g.w) A (.call (.ref (g.faddr 17)) ⟨[.ref x], [(Str.ofString "poly", .none), (Str.ofString "initialize", .bool false)]⟩) R s := by
  obtain ⟨o, fd, body, F0, hX, _, t, t', hb⟩ := F
  have rall : RepL g os ad s.heap [.ref i, .none, .int (-1), .bool true, .int 0, .bool false] [.ref x, .none, .int (-1) t, .bool true, .int 0 t', .bool false] :=
    RepL.cons r (RepL.cons (show Rep g os _ _ .none .none from rfl) (RepL.cons ⟨t, rfl⟩ (RepL.cons (show Rep g os _ _ (.bool true) (.bool true) from rfl) (RepL.cons ⟨t', rfl⟩ (RepL.one (show Rep g os _ _ (.bool false) (.bool false) from rfl))))))
  refine fn_codeA (nv := nv_Crc_init) (K := fun r objs' => r = .none ∧ objs' = objs) (S.G0 0) (S.O.X _ _ F0.at_) F0.dat F0.body F0.co F0.gen F0.clos F0.glob F0.blt (codeRec_of S.O.X F0.code) F0.ent (fun env hsc _ _ => okSs (S.G0 0) Sp S.hN S.hinj x_Crc_init body _ _ _ env (kdOk_of hsc) hX)
    (hb s (S.O.X.keeps I.base) (.ref x) .none (.bool false)) rfl (vc_init0 fun _ => ⟨rfl, rfl⟩) hA I rall fun v r objs' ad' s' hk hr I' S' => ?_
  obtain ⟨rfl, rfl⟩ := hk
  have hv : v = .none := hr
  subst hv
  exact post s' ad' I' S'

/-- Crc(poly=None, initialize=False) -/
theorem tr_newCall (S : Setup K0 g N L) (Q : ClsK K0 g) (F : InitK K0 N (g.faddr 17)) (Sp0 : SpOk g N (cT L 0) 0) {id : Str} {p1 p2 p3 p4 p5 pos : Pos} {k1 k2 : Nat} (hl : 2 ≤ ℓ) (hk : env.kindOf id = some .globalImplicit) (hn : N.gn 110 = some id) (hd : (id == ("__debug__" : Str)) = false) :
    TrE g N (cT L ℓ) ℓ (fun σ K => K (.ref σ.objs.length) ⟨σ.vars, σ.objs ++ [.inst 1 []]⟩) env nm (eval (.Call (.Name id p1) [] [⟨some (Str.ofString "poly"), .Constant .none k1 p2, p3⟩, ⟨some (Str.ofString "initialize"), .Constant (.bool false) k2 p4, p5⟩] pos) env) := by
  intro os own wr A ad σ s K Q' E hA I w post
  show wpAny _ _ (eval (.Name id p1) env >>= fun f => callWith pos f [] (backTo pos (starEach [] env)) (backToKw pos (keywordEach _ env))) _ _ _
  refine wpAny_bind (tr_glob (c := cT L ℓ) (ℓ := ℓ) (S.G0 ℓ) hk hn hd os own wr A ad σ s (fun v σ' => v = .cls 1 ∧ σ' = σ) _ E hA I ⟨rfl, rfl⟩ fun va a ad1 σ1 s1 w1 ra I1 S1 => ?_)
  obtain ⟨rfl, rfl⟩ := w1
  have : va = .ref (g.caddr 1) := ra
  subst this
  refine callWith_of (P := fun h => K0.In h) rfl (fun h X => keeps_K Q.keep1 h X) ?_
  refine evalArgs_kw2_nil rfl (kwAll_cons ?_)
  rw [arm_eval_Constant]
  refine wpAny_pure (kwAll_cons ?_)
  rw [arm_eval_Constant]
  refine wpAny_pure (kwAll_nil ⟨S.O.X.keeps I1.H.base, ?_⟩)
  show wpAny _ _ (call (.ref (g.caddr 1)) [] [(Str.ofString "poly", .none), (Str.ofString "initialize", .bool false)]) _ _ _
  refine wpAny_call (cls_code (ℓ := 1) S.O.X Q.mk1 Q.init1 Q.fn17 (hA.less hl) I1.H fun A' x d s' hA' H St => ?_)
  have rx : Rep g os (ad1 ++ [(x, some d)]) s'.heap (.ref σ1.objs.length) (.ref x) := ⟨(x, some d), by rw [← I1.H.objs.1, List.getElem?_append_right (Nat.le_refl _)]; simp, rfl⟩
  refine init0_code S F Sp0 hA' H rx fun s2 ad2 I2 S2 => ⟨rfl, ?_⟩
  have S3 := Step.trans I1.H (by simp) H St S2
  have st2 := S2.stays (os := os) (by simp)
  exact post _ _ _ _ _ w (Rep.stays st2 _ _ rx) (I1.objs I2 S3) (I.stp I1 S1 S3)

/-- new: its first line apart, its last argument has a default -/
def NewK (K : Frag) (N : Nms) (a : Addr) : Prop := ∃ o fd rest id p p' p1 p2 p3 p4 p5 pos k1 k2, FnK0 K a nm_Crc_new ps_Crc_new o fd (.Assign [.Name (Str.ofString "n") p] (.Call (.Name id p1) [] [⟨some (Str.ofString "poly"), .Constant .none k1 p2, p3⟩, ⟨some (Str.ofString "initialize"), .Constant (.bool false) k2 p4, p5⟩] pos) p' :: rest) ∧
  N.gn 110 = some id ∧ (id == ("__debug__" : Str)) = false ∧ fd.scope.names.lookup id = some .globalImplicit ∧ wrOf fd.scope nm_Crc_new (Str.ofString "n") = true ∧
  ckSs N (fun x => fd.scope.names.lookup x) nm_Crc_new (wrOf fd.scope nm_Crc_new) x_Crc_new rest = true ∧
  (∀ s : Shared, K.In s.heap → ∀ v1 : Value, BindsTo s fd ⟨[v1], []⟩ (ps_Crc_new.zip [v1, .none])) ∧ (∀ s : Shared, K.In s.heap → ∀ v1 v2 : Value, BindsTo s fd ⟨[v1, v2], []⟩ (ps_Crc_new.zip [v1, v2]))
def wNew (c : C) (σ : St) (K : Fl → St → Prop) : Prop := (fun v σ1 => (fun fl σ1 => match fl with
  | .next => wpSs c x_Crc_new σ1 K
  | fl => K fl σ1) Fl.next ⟨σ1.vars.set 2 v, σ1.objs⟩) (SV.ref σ.objs.length) (⟨σ.vars, σ.objs ++ [.inst 1 []]⟩ : St)
theorem new_ok (S : Setup K0 g N L) (Q : ClsK K0 g) (F : InitK K0 N (g.faddr 17)) (FN : NewK K0 N (g.faddr 18)) (Sp0 : SpOk g N (cT L 0) 0) (Sp : SpOk g N (cT L 5) 5) (h : spNew args objs K) : CallOk g 6 (.fn 18) args objs K := by
  obtain ⟨o, fd, rest, id, p, p', p1, p2, p3, p4, p5, pos, k1, k2, F0, hgn, hd, hki, hwr, hX, hb1, hb2⟩ := FN
  have body : ∀ env : Env, env.scope = fd.scope → env.code = fd.code → env.qual = fd.qualname ++ ".<locals>." → TrS g N (cT L 5) 5 (wNew (cT L 5)) env nm_Crc_new (wrOf fd.scope nm_Crc_new) (execs (.Assign [.Name (Str.ofString "n") p] (.Call (.Name id p1) [] [⟨some (Str.ofString "poly"), .Constant .none k1 p2, p3⟩, ⟨some (Str.ofString "initialize"), .Constant (.bool false) k2 p4, p5⟩] pos) p' :: rest) env) := by
    intro env hsc _ _
    have hko : env.kindOf id = some .globalImplicit := by show env.scope.names.lookup id = _; rw [hsc]; exact hki
    exact tr_scons (tr_set hwr rfl rfl (tr_newCall S Q F Sp0 (by decide) hko hgn hd)) (okSs (S.G0 5) Sp S.hN S.hinj x_Crc_new rest _ _ _ env (kdOk_of hsc) hX)
  unfold spNew at h
  split at h
  · rename_i i
    obtain ⟨gc, v, ok, hc, h⟩ := h
    refine fn_okH (dfl := [.none]) (nv := nv_Crc_new) (S.G0 5) (S.O.X _ _ F0.at_) F0.dat F0.body F0.co F0.gen F0.clos F0.glob F0.blt (codeRec_of S.O.X F0.code) F0.ent body (fun s vals hk hv => ⟨[.none], ?_, fun os ad _ => RepL.one rfl⟩) rfl ?_
    · match vals, hv with
      | [v1], _ => exact hb1 s (S.O.X.keeps hk) v1
    · exact vc_new (v := v) (by decide) ok hc (.inl ⟨rfl, h⟩)
  · rename_i i D
    obtain ⟨gc, v, ok, hD, hc, h⟩ := h
    refine fn_okH (dfl := []) (nv := nv_Crc_new) (S.G0 5) (S.O.X _ _ F0.at_) F0.dat F0.body F0.co F0.gen F0.clos F0.glob F0.blt (codeRec_of S.O.X F0.code) F0.ent body (fun s vals hk hv => ⟨[], ?_, fun os ad _ => RepL.nil⟩) rfl ?_
    · match vals, hv with
      | [v1, v2], _ => exact hb2 s (S.O.X.keeps hk) v1 v2
    · exact vc_new (v := v) (by decide) ok hc (.inr ⟨D, rfl, hD, h⟩)
  · exact h.elim
end
end Vc
end
section
open PySem PySem.W PyProof.Rows PySem.Calls
set_option autoImplicit false
set_option maxRecDepth 100000
set_option linter.unusedVariables false
namespace Vc
structure TableF (K : Frag) (g : G) (N : Nms) (a : Addr) (lamk : Nat) (s2 : S) (comp : X) (cc P : Addr) (o : Obj) (fd : FuncData) (st1 st2 st4 : Stmt) (p p1 pos p' lpos : Pos) (params : Arguments) (lbody compE listE : Expr) (lscope : Scope) (idr : Str) : Prop where
  F0 : FnK0 K a nm_mkTable ps_mkTable o fd [st1, st2, .Assign [.Name (Str.ofString "table") p] (.Call (.Name idr p1) [.Lambda params lbody lscope lpos, compE, listE] [] pos) p', st4]
  c1 : ckS N (fun x => fd.scope.names.lookup x) nm_mkTable (wrOf fd.scope nm_mkTable) t_s1 st1 = true
  c2 : ckS N (fun x => fd.scope.names.lookup x) nm_mkTable (wrOf fd.scope nm_mkTable) s2 st2 = true
  c3 : ckEs N (fun x => fd.scope.names.lookup x) nm_mkTable (.cons comp (.cons t_list .nil)) [compE, listE] = true
  c4 : ckSs N (fun x => fd.scope.names.lookup x) nm_mkTable (wrOf fd.scope nm_mkTable) t_ret [st4] = true
  star : noStar [.Lambda params lbody lscope lpos, compE, listE] = true
  gn : N.gn 113 = some idr
  gk : fd.scope.names.lookup idr = some .globalImplicit
  gd : (idr == ("__debug__" : Str)) = false
  wr : wrOf fd.scope nm_mkTable (Str.ofString "table") = true
  d1 : params.defaults = []
  d2 : params.kw_defaults = []
  fr : (lscope.names.filter fun p => p.2 == .free) = []
  clo : g.clo lamk = ⟨"<lambda>", fd.qualname ++ ".<locals>." ++ "<lambda>", params, .expr lbody, lscope, []⟩
  code : fd.code = .ref cc
  tq : g.tq P = fd.qualname ++ ".<locals>." ++ "<lambda>"
  mem : P ∈ g.tabs
  bind : ∀ vals : List Value, vals.length = ps_mkTable.length → bindArgs fd ⟨vals, []⟩ = pure (ps_mkTable.zip vals)
def TableK (K : Frag) (g : G) (N : Nms) (a : Addr) (lamk : Nat) (s2 : S) (comp : X) (cc P : Addr) : Prop := ∃ o fd st1 st2 st4 p p1 pos p' lpos params lbody compE listE lscope idr, TableF K g N a lamk s2 comp cc P o fd st1 st2 st4 p p1 pos p' lpos params lbody compE listE lscope idr

section
variable {K0 : Frag} {g : G} {N : Nms} {L : LawP} {ℓ ℓ' k : Nat} {nm : List (Str × Nat)} {ps : List Str} {args dfl : List SV} {objs : List AO} {K : SV → List AO → Prop} {f : SV} {env : Env}
theorem redCW_ok {F : List SV → List AO → (SV → List AO → Prop) → Prop} {lamk : Nat} (hF : ∀ args objs K, F args objs K → CallOk g ℓ (.clo lamk []) args objs K) (h : redCW F lamk f args objs K) : CallOk g (ℓ + 1) f args objs K := by
  unfold redCW at h
  split at h
  · obtain ⟨rfl, h⟩ := h
    exact reduce_ok hF h
  · exact h.elim
theorem table_ok (S : Setup K0 g N L) {lamk : Nat} {s2 : Vc.S} {comp : X} {cc P : Addr} (T : TableK K0 g N (g.faddr k) lamk s2 comp cc P) (hC : CodeHd g.h₀ cc P) (hF : ∀ args objs K, redF L lamk args objs K → CallOk g 1 (.clo lamk []) args objs K) (Sp : SpOk g N (cT L 2) 2)
    (hl : args.length = 2) (w : wTable (cT L 2) (redF L lamk) lamk s2 comp ⟨vars0 args 5, objs⟩ fun fl σ => K (retV fl) σ.objs) : CallOk g 3 (.fn k) args objs K := by
  obtain ⟨o, fd, st1, st2, st4, p, p1, pos, p', lpos, params, lbody, compE, listE, lscope, idr, T⟩ := T
  have F0 := T.F0
  refine fn_okH (dfl := []) (nv := 5) (S.G0 2) (S.O.X _ _ F0.at_) F0.dat F0.body F0.co F0.gen F0.clos F0.glob F0.blt (codeRec_of S.O.X F0.code) F0.ent (W := wTable (cT L 2) (redF L lamk) lamk s2 comp) ?_ (fun s vals _ hv => ⟨[], ?_, fun os ad _ => RepL.nil⟩) (by rw [hl]; rfl) (by simpa using w)
  · intro env hsc hcode hqual
    have hkd := kdOk_of hsc
    have hko : env.kindOf idr = some .globalImplicit := by show env.scope.names.lookup idr = _; rw [hsc]; exact T.gk
    have M : MkEnv g env cc P (env.qual ++ "<lambda>") := ⟨by rw [hcode, T.code], hC, T.mem, by rw [T.tq, hqual]⟩
    have hdef : defaultsOf params env = ([], []) := by rw [defaultsOf_eq, T.d1, T.d2]; rfl
    have hcl : closureFor lscope env = pure [] := by
      rw [closureFor_of (ads := fun _ => 0) fun q hq hf => ?_, T.fr]
      · rfl
      · have : q ∈ lscope.names.filter fun p => p.2 == .free := List.mem_filter.mpr ⟨hq, by rw [hf]; rfl⟩
        rw [T.fr] at this; cases this
    have lam := tr_lam (N := N) (c := cT L 2) (ℓ := 2) (nm := nm_mkTable) (pos := lpos) (S.G0 2) S.bm M hdef hcl (by rw [T.clo, hqual])
    have call := tr_callW (c := cT L 2) (N := N) (p := p1) (pos := pos) (redCW_ok hF) T.star (tr_glob (S.G0 2) (pos := p1) hko T.gn T.gd) (tr_cons lam (okEs (S.G0 2) Sp S.hN S.hinj _ _ _ _ env hkd T.c3))
    exact tr_scons (okS (S.G0 2) Sp S.hN S.hinj _ _ _ _ _ env hkd T.c1) (tr_scons (okS (S.G0 2) Sp S.hN S.hinj _ _ _ _ _ env hkd T.c2) (tr_scons (tr_set (i := 3) T.wr rfl rfl call) (okSs (S.G0 2) Sp S.hN S.hinj _ _ _ _ _ env hkd T.c4)))
  · rw [List.append_nil]
    exact BindsTo.of_eq (T.bind vals (by rw [hv, hl]; rfl))

/-- a lambda of the text -/
structure LamF (g : G) (N : Nms) (k : Nat) (body : Expr) : Prop where
  hbody : (g.clo k).body = .expr body
  co : (g.clo k).scope.isCoroutine = false
  gen : (g.clo k).scope.isGenerator = false
  free : (g.clo k).free = []
  ent : entCk (g.clo k).scope nm_lam ps_lam = true
  ck : ckE N (fun x => (g.clo k).scope.names.lookup x) nm_lam x_lam body = true
  bind : ∀ (doc pm ctv cv v1 v2 : Value), bindArgs (kdv_fn (g.clo k).name (g.clo k).qual (g.clo k).params (g.clo k).body (g.clo k).scope [] .none doc pm cv ctv) ⟨[v1, v2], []⟩ = pure (ps_lam.zip [v1, v2])
theorem lamF_of {g : G} {N : Nms} {k : Nat} {name qual : Str} {params : Arguments} {body : Expr} {scope : Scope} (hc : g.clo k = ⟨name, qual, params, .expr body, scope, []⟩) (h1 : scope.isCoroutine = false) (h2 : scope.isGenerator = false)
    (h3 : entCk scope nm_lam ps_lam = true) (h4 : ckE N (fun x => scope.names.lookup x) nm_lam x_lam body = true) (h5 : ∀ (doc pm ctv cv v1 v2 : Value), bindArgs (kdv_fn name qual params (.expr body) scope [] .none doc pm cv ctv) ⟨[v1, v2], []⟩ = pure (ps_lam.zip [v1, v2])) : LamF g N k body := by
  refine ⟨?_, ?_, ?_, ?_, ?_, ?_, ?_⟩ <;> simp only [hc] <;> assumption
theorem lam_ok' (S : Setup K0 g N L) {body : Expr} (F : LamF g N k body) (Sp : SpOk g N (cT L 0) 0) (h : spLam args objs K) : CallOk g 1 (.clo k []) args objs K := by
  obtain ⟨l, r, rfl, w⟩ := vc_lam (L := L) (ℓ := 0) h
  refine lam_ok (nv := 3) (S.G0 0) Sp S.hN S.hinj F.hbody F.co F.gen F.free F.ent F.ck (fun s doc pm ctv cv vals hv => ?_) rfl w
  match vals, hv with
  | [v1, v2], _ => exact BindsTo.of_eq (F.bind doc pm ctv cv v1 v2)

def nm_fun0 : List (Str × Nat) := [(Str.ofString "data", 0), (Str.ofString "crc", 1), (Str.ofString "table", 2), (Str.ofString "fun", 3)]
def nm_fun1 : List (Str × Nat) := [(Str.ofString "data", 0), (Str.ofString "crc", 1), (Str.ofString "table", 2), (Str.ofString "fun", 3), (Str.ofString "xorOut", 4)]
def ps_fun : List Str := [Str.ofString "data", Str.ofString "crc", Str.ofString "table", Str.ofString "fun"]
/-- a closure of the text -/
structure CloF (g : G) (N : Nms) (k : Nat) (nm : List (Str × Nat)) (X : Ss) (free : List Str) (body : List Stmt) : Prop where
  hbody : (g.clo k).body = .stmts body
  co : (g.clo k).scope.isCoroutine = false
  gen : (g.clo k).scope.isGenerator = false
  free : (g.clo k).free = free
  ent : entCkF (g.clo k).scope nm ps_fun (g.clo k).free = true
  ck : ckSs N (fun x => (g.clo k).scope.names.lookup x) nm (wrOf (g.clo k).scope nm) X body = true
  bind : ∀ (cl : List (Str × Addr)) (dt : Addr) (doc pm ctv cv v1 v2 d1 d2 d3 : Value) (s : Shared), s.heap.get? dt = some (kdv_tup [d1, d2, d3]) →
    BindsTo s (kdv_fn (g.clo k).name (g.clo k).qual (g.clo k).params (g.clo k).body (g.clo k).scope cl (.ref dt) doc pm cv ctv) ⟨[v1, v2], []⟩ (ps_fun.zip [v1, v2, d2, d3])
theorem cloF_of {g : G} {N : Nms} {k : Nat} {nm : List (Str × Nat)} {X : Ss} {name qual : Str} {params : Arguments} {body : List Stmt} {scope : Scope} {free : List Str} (hc : g.clo k = ⟨name, qual, params, .stmts body, scope, free⟩) (h1 : scope.isCoroutine = false) (h2 : scope.isGenerator = false)
    (h3 : entCkF scope nm ps_fun free = true) (h4 : ckSs N (fun x => scope.names.lookup x) nm (wrOf scope nm) X body = true)
    (h5 : ∀ (cl : List (Str × Addr)) (dt : Addr) (doc pm ctv cv v1 v2 d1 d2 d3 : Value) (s : Shared), s.heap.get? dt = some (kdv_tup [d1, d2, d3]) → BindsTo s (kdv_fn name qual params (.stmts body) scope cl (.ref dt) doc pm cv ctv) ⟨[v1, v2], []⟩ (ps_fun.zip [v1, v2, d2, d3])) : CloF g N k nm X free body := by
  refine ⟨?_, ?_, ?_, ?_, ?_, ?_, ?_⟩ <;> simp only [hc] <;> assumption
theorem clo0_ok (S : Setup K0 g N L) {body : List Stmt} (F : CloF g N 0 nm_fun0 x_fun0 [] body) (Sp : SpOk g N (cT L 3) 3) {caps : List SV} (h : spFun0 (caps ++ args) objs K) (hc : caps.length = 3) : CallOk g 4 (.clo 0 caps) args objs K := by
  obtain ⟨a, t, q, D, c, e, w⟩ := vc_fun0 (L := L) (ℓ := 3) (by decide) h
  obtain ⟨rfl, rfl⟩ : caps = [a, t, q] ∧ args = [.bytes D, c] := by
    have := List.append_inj (t₁ := [.bytes D, c]) (s₁ := [a, t, q]) e.symm (by simp [hc])
    exact ⟨this.1.symm, this.2.symm⟩
  refine clo_ok (k := 0) (caps := []) (dfl := [a, t, q]) (args := [.bytes D, c]) (nv := 4) (S.G0 3) Sp S.hN S.hinj F.hbody F.co F.gen F.ent F.ck (fun s cl dt doc pm ctv cv vals dv hv hd hdt => ?_) (by simp) (by rw [F.free]; rfl) (Nat.le_of_ble_eq_true rfl) (Nat.le_of_ble_eq_true rfl) w
  match vals, hv, dv, hd, hdt with
  | [v1, v2], _, [d1, d2, d3], _, hdt => exact F.bind cl dt doc pm ctv cv v1 v2 d1 d2 d3 s hdt
theorem clo1_ok (S : Setup K0 g N L) {body : List Stmt} (F : CloF g N 1 nm_fun1 x_fun1 [Str.ofString "xorOut"] body) (Sp : SpOk g N (cT L 3) 3) {caps : List SV} (h : spFun1 (caps ++ args) objs K) (hc : caps.length = 4) : CallOk g 4 (.clo 1 caps) args objs K := by
  obtain ⟨x, a, t, q, D, c, e, w⟩ := vc_fun1 (L := L) (ℓ := 3) (by decide) h
  obtain ⟨rfl, rfl⟩ : caps = [x, a, t, q] ∧ args = [.bytes D, c] := by
    have := List.append_inj (t₁ := [.bytes D, c]) (s₁ := [x, a, t, q]) e.symm (by simp [hc])
    exact ⟨this.1.symm, this.2.symm⟩
  refine clo_ok (k := 1) (caps := [x]) (dfl := [a, t, q]) (args := [.bytes D, c]) (nv := 5) (S.G0 3) Sp S.hN S.hinj F.hbody F.co F.gen F.ent F.ck (fun s cl dt doc pm ctv cv vals dv hv hd hdt => ?_) (by simp) (by rw [F.free]; rfl) (Nat.le_of_ble_eq_true rfl) (Nat.le_of_ble_eq_true rfl) w
  match vals, hv, dv, hd, hdt with
  | [v1, v2], _, [d1, d2, d3], _, hdt => exact F.bind cl dt doc pm ctv cv v1 v2 d1 d2 d3 s hdt
end
end Vc
end
section
open PySem PySem.W PyProof.Rows PySem.Calls
set_option autoImplicit false
set_option maxRecDepth 100000
set_option linter.unusedVariables false
namespace Vc
def wr16 (sc : Scope) : Str → Bool := fun x => wrOf sc nm_mkCrcFun x && x != Str.ofString "xorOut"
structure DefF (g : G) (N : Nms) (fd : FuncData) (k : Nat) (params : Arguments) (body : List Stmt) (scope : Scope) (free : List Str) : Prop where
  d1 : params.defaults.isEmpty = false
  d2 : params.kw_defaults = []
  d3 : ∀ env : Env, annTrees params none env = []
  d4 : params.defaults.length = 3
  ck : ckEs N (fun x => fd.scope.names.lookup x) nm_mkCrcFun m_dfl params.defaults = true
  clo : g.clo k = ⟨Str.ofString "crcfun", fd.qualname ++ ".<locals>." ++ Str.ofString "crcfun", params, .stmts body, scope, free⟩
  fr : free = ((scope.names.filter fun p => p.2 == .free).map (·.1)).reverse
structure MkFunF (K : Frag) (g : G) (N : Nms) (a : Addr) (cc P : Addr) (o : Obj) (fd : FuncData) (st1 st2 st4 : Stmt) (te : Expr) (pos pos0 pos1 : Pos) (params0 params1 : Arguments) (body0 body1 : List Stmt) (sc0 sc1 : Scope) : Prop where
  F0 : FnK0 K a nm_mkCrcFun ps_mkCrcFun o fd [st1, st2, .If te [.FunctionDef (Str.ofString "crcfun") params0 body0 [] none [] sc0 none (Str.ofString "crcfun") pos0] [.FunctionDef (Str.ofString "crcfun") params1 body1 [] none [] sc1 none (Str.ofString "crcfun") pos1] pos, st4]
  c1 : ckS N (fun x => fd.scope.names.lookup x) nm_mkCrcFun (wr16 fd.scope) m_s1 st1 = true
  c2 : ckS N (fun x => fd.scope.names.lookup x) nm_mkCrcFun (wr16 fd.scope) m_s2 st2 = true
  ct : ckE N (fun x => fd.scope.names.lookup x) nm_mkCrcFun m_t te = true
  c4 : ckSs N (fun x => fd.scope.names.lookup x) nm_mkCrcFun (wr16 fd.scope) m_ret [st4] = true
  D0 : DefF g N fd 0 params0 body0 sc0 []
  D1 : DefF g N fd 1 params1 body1 sc1 [Str.ofString "xorOut"]
  kx : fd.scope.names.lookup (Str.ofString "xorOut") = some .cell
  kc : fd.scope.names.lookup (Str.ofString "crcfun") = some .local
  wx : wrOf fd.scope nm_mkCrcFun (Str.ofString "xorOut") = true
  wc : wr16 fd.scope (Str.ofString "crcfun") = true
  code : fd.code = .ref cc
  tq : g.tq P = fd.qualname ++ ".<locals>." ++ Str.ofString "crcfun"
  mem : P ∈ g.tabs
  bind : ∀ vals : List Value, vals.length = ps_mkCrcFun.length → bindArgs fd ⟨vals, []⟩ = pure (ps_mkCrcFun.zip vals)
def MkFunK (K : Frag) (g : G) (N : Nms) (a : Addr) (cc P : Addr) : Prop := ∃ o fd st1 st2 st4 te pos pos0 pos1 params0 params1 body0 body1 sc0 sc1, MkFunF K g N a cc P o fd st1 st2 st4 te pos pos0 pos1 params0 params1 body0 body1 sc0 sc1

section
variable {K0 : Frag} {g : G} {N : Nms} {L : LawP} {ℓ ℓ' k : Nat} {nm : List (Str × Nat)} {ps : List Str} {args dfl : List SV} {objs : List AO} {K : SV → List AO → Prop} {f : SV} {env : Env}
theorem TrSx.weak {X X' : List Addr → Prop} {c : C} {W : St → (Fl → St → Prop) → Prop} {wr : Str → Bool} {t : Sem Flow} (h : TrSx X g N c ℓ W env nm wr t) (hx : ∀ os, X' os → X os) : TrSx X' g N c ℓ W env nm wr t := fun os own A ad σ s K Q E x => h os own A ad σ s K Q E (hx os x)
theorem mkFun_ok (S : Setup K0 g N L) {cc P : Addr} (T : MkFunK K0 g N (g.faddr 16) cc P) (hC : CodeHd g.h₀ cc P) (Sp : SpOk g N (cT L 3) 3) (h : spMkFun args objs K) : CallOk g 4 (.fn 16) args objs K := by
  obtain ⟨P', n, a, r, b, rfl, w⟩ := vc_mkCrcFun (L := L) (ℓ := 3) (by decide) h
  obtain ⟨o, fd, st1, st2, st4, te, pos, pos0, pos1, params0, params1, body0, body1, sc0, sc1, T⟩ := T
  have F0 := T.F0
  refine fn_okF (dfl := []) (nv := 9) (free := [Str.ofString "xorOut"]) (wr := wr16 fd.scope) (S.G0 3) (S.O.X _ _ F0.at_) F0.dat F0.body F0.co F0.gen F0.clos F0.glob F0.blt (codeRec_of S.O.X F0.code) F0.ent (W := wMkFun (cT L 3)) ?_ ?_ ?_ (fun s vals _ hv => ⟨[], ?_, fun os ad _ => RepL.nil⟩) rfl (by simpa using w)
  · intro x hx
    rw [List.mem_singleton] at hx
    subst hx
    refine ⟨T.wx, T.kx, ?_⟩
    unfold wr16
    simp
  · intro x hx
    unfold wr16 at hx
    simp only [Bool.and_eq_true] at hx
    exact hx.1
  · intro env ads hsc hcode hqual hads
    have hkd := kdOk_of hsc
    have hkc : env.kindOf (Str.ofString "crcfun") = some .local := by show env.scope.names.lookup _ = _; rw [hsc]; exact T.kc
    have hq : qualnameIn env (Str.ofString "crcfun") (Str.ofString "crcfun") = fd.qualname ++ ".<locals>." ++ Str.ofString "crcfun" := by
      unfold qualnameIn
      rw [hkc, hqual]; rfl
    have M : MkEnv g env cc P (qualnameIn env (Str.ofString "crcfun") (Str.ofString "crcfun")) := ⟨by rw [hcode, T.code], hC, T.mem, by rw [T.tq, hq]⟩
    have G0 := S.G0 3
    have hx := hads (Str.ofString "xorOut") (by simp)
    have def0 := tr_def (g := g) (N := N) (c := cT L 3) (ℓ := 3) (env := env) (nm := nm_mkCrcFun) (wr := wr16 fd.scope) (i := 8) (is := []) (free := []) (ads := ads) (pos := pos0) (n := 3) G0 S.bm M T.D0.d1 T.D0.d2 (T.D0.d3 env) (by rw [T.D0.clo, hq]) T.D0.fr (by simp) rfl T.wc rfl (by decide)
      (by have := okAll (nm := nm_mkCrcFun) G0 Sp S.hN S.hinj _ _ _ hkd T.D0.ck; rw [T.D0.d4] at this; exact this)
    have def1 := tr_def (g := g) (N := N) (c := cT L 3) (ℓ := 3) (env := env) (nm := nm_mkCrcFun) (wr := wr16 fd.scope) (i := 8) (is := [4]) (free := [Str.ofString "xorOut"]) (ads := ads) (pos := pos1) (n := 3) G0 S.bm M T.D1.d1 T.D1.d2 (T.D1.d3 env) (by rw [T.D1.clo, hq]) T.D1.fr
      (fun x q => by rw [List.mem_singleton] at q; subst q; exact ⟨by rw [hx.1]; simp, hx.2⟩) rfl T.wc rfl (by decide)
      (by have := okAll (nm := nm_mkCrcFun) G0 Sp S.hN S.hinj _ _ _ hkd T.D1.ck; rw [T.D1.d4] at this; exact this)
    exact trx_scons (TrS.x (okS G0 Sp S.hN S.hinj m_s1 st1 _ _ _ env hkd T.c1)) (trx_scons (TrS.x (okS G0 Sp S.hN S.hinj m_s2 st2 _ _ _ env hkd T.c2))
      (trx_scons (trx_ite (okT G0 Sp S.hN S.hinj m_t te _ _ env hkd T.ct) (trx_scons (def0.weak fun os _ => by simp) (TrS.x tr_snil)) (trx_scons def1 (TrS.x tr_snil))) (TrS.x (okSs G0 Sp S.hN S.hinj m_ret [st4] _ _ _ env hkd T.c4))))
  · rw [List.append_nil]
    exact BindsTo.of_eq (T.bind vals hv)
end
end Vc
end
section
open PySem PySem.W PyProof.Rows PySem.Calls
set_option autoImplicit false
set_option maxRecDepth 100000
set_option linter.unusedVariables false
namespace Vc
/-- what the written part says of the text's functions, those of the law apart -/
structure CrcF (K : Frag) (g : G) (N : Nms) : Prop where
  f0 : FnK K N (g.faddr 0) nm_get_buffer_view ps_get_buffer_view x_get_buffer_view
  f1 : FnK K N (g.faddr 1) nm_crc8 ps_crc8 x_crc8
  f2 : FnK K N (g.faddr 2) nm_crc8r ps_crc8r x_crc8r
  f3 : FnK K N (g.faddr 3) nm_crc16 ps_crc16 x_crc16
  f4 : FnK K N (g.faddr 4) nm_crc16r ps_crc16r x_crc16r
  f5 : FnK K N (g.faddr 5) nm_crc24 ps_crc24 x_crc24
  f6 : FnK K N (g.faddr 6) nm_crc24r ps_crc24r x_crc24r
  f7 : FnK K N (g.faddr 7) nm_crc32 ps_crc32 x_crc32
  f8 : FnK K N (g.faddr 8) nm_crc32r ps_crc32r x_crc32r
  f9 : FnK K N (g.faddr 9) nm_verifyPoly ps_verifyPoly x_verifyPoly
  f10 : FnK K N (g.faddr 10) nm_bitrev ps_bitrev x_bitrev
  f11 : FnK K N (g.faddr 11) nm_bytecrc ps_bytecrc x_bytecrc
  f12 : FnK K N (g.faddr 12) nm_bytecrc_r ps_bytecrc_r x_bytecrc_r
  f15 : FnK K N (g.faddr 15) nm_verifyParams ps_verifyParams x_verifyParams
  f20 : FnK K N (g.faddr 20) nm_Crc_update ps_Crc_update x_Crc_update
  f21 : FnK K N (g.faddr 21) nm_Crc_digest ps_Crc_digest x_Crc_digest
  f22 : FnK K N (g.faddr 22) nm_View_tobytes ps_View_tobytes x_View_tobytes
  t13 : ∃ c P, CodeHd g.h₀ c P ∧ TableK K g N (g.faddr 13) 2 t_s2 t_comp c P
  t14 : ∃ c P, CodeHd g.h₀ c P ∧ TableK K g N (g.faddr 14) 3 t_s2r t_compr c P
  m16 : ∃ c P, CodeHd g.h₀ c P ∧ MkFunK K g N (g.faddr 16) c P
  i17 : InitK K N (g.faddr 17)
  n18 : NewK K N (g.faddr 18)
  cl : ClsK K g
  l2 : ∃ b, LamF g N 2 b
  l3 : ∃ b, LamF g N 3 b
  c0 : ∃ b, CloF g N 0 nm_fun0 x_fun0 [] b
  c1 : ∃ b, CloF g N 1 nm_fun1 x_fun1 [Str.ofString "xorOut"] b
def LawIx (k : Nat) : Prop := k = 19 ∨ (30 ≤ k ∧ k ≤ 40)
section
variable {K0 : Frag} {g : G} {N : Nms} {L : LawP} {ℓ ℓ' k : Nat} {nm : List (Str × Nat)} {ps : List Str} {args dfl : List SV} {objs : List AO} {K : SV → List AO → Prop} {f : SV} {env : Env}
abbrev Ih (g : G) (N : Nms) (L : LawP) (d : Nat) : Prop := ∀ ℓ, ℓ < d → SpOk g N (cT L ℓ) ℓ
theorem fnOk (S : Setup K0 g N L) (F : CrcF K0 g N) (hlaw : ∀ k, LawIx k → ∀ args objs K, L.sp k args objs K → Ih g N L (L.depth k) → CallOk g (L.depth k) (.fn k) args objs K) (h19 : L.depth 19 = 7) (hk : k < 1000) (h : spT L k args objs K) (ih : Ih g N L (depthT L k)) : CallOk g (depthT L k) (.fn k) args objs K := by
  unfold spT at h
  split at h
  · obtain ⟨D, rfl, w⟩ := vc_view (L := L) (ℓ := 1) (by decide) h
    exact fn_of_K (ℓ := 1) S F.f0 (ih 1 (Nat.le_of_ble_eq_true rfl)) rfl w
  · obtain ⟨D, c, t, rfl, w⟩ := vc_crc8 (L := L) (ℓ := 2) (by decide) h
    exact fn_of_K (ℓ := 2) S F.f1 (ih 2 (Nat.le_of_ble_eq_true rfl)) rfl w
  · obtain ⟨D, c, t, rfl, w⟩ := vc_crc8r (L := L) (ℓ := 2) (by decide) h
    exact fn_of_K (ℓ := 2) S F.f2 (ih 2 (Nat.le_of_ble_eq_true rfl)) rfl w
  · obtain ⟨D, c, t, rfl, w⟩ := vc_crc16 (L := L) (ℓ := 2) (by decide) h
    exact fn_of_K (ℓ := 2) S F.f3 (ih 2 (Nat.le_of_ble_eq_true rfl)) rfl w
  · obtain ⟨D, c, t, rfl, w⟩ := vc_crc16r (L := L) (ℓ := 2) (by decide) h
    exact fn_of_K (ℓ := 2) S F.f4 (ih 2 (Nat.le_of_ble_eq_true rfl)) rfl w
  · obtain ⟨D, c, t, rfl, w⟩ := vc_crc24 (L := L) (ℓ := 2) (by decide) h
    exact fn_of_K (ℓ := 2) S F.f5 (ih 2 (Nat.le_of_ble_eq_true rfl)) rfl w
  · obtain ⟨D, c, t, rfl, w⟩ := vc_crc24r (L := L) (ℓ := 2) (by decide) h
    exact fn_of_K (ℓ := 2) S F.f6 (ih 2 (Nat.le_of_ble_eq_true rfl)) rfl w
  · obtain ⟨D, c, t, rfl, w⟩ := vc_crc32 (L := L) (ℓ := 2) (by decide) h
    exact fn_of_K (ℓ := 2) S F.f7 (ih 2 (Nat.le_of_ble_eq_true rfl)) rfl w
  · obtain ⟨D, c, t, rfl, w⟩ := vc_crc32r (L := L) (ℓ := 2) (by decide) h
    exact fn_of_K (ℓ := 2) S F.f8 (ih 2 (Nat.le_of_ble_eq_true rfl)) rfl w
  · obtain ⟨P, rfl, w⟩ := vc_verifyPoly (L := L) (ℓ := 0) h
    exact fn_of_K (ℓ := 0) S F.f9 (ih 0 (Nat.le_of_ble_eq_true rfl)) rfl w
  · obtain ⟨x, n, rfl, w⟩ := vc_bitrev (L := L) (ℓ := 0) h
    exact fn_of_K (ℓ := 0) S F.f10 (ih 0 (Nat.le_of_ble_eq_true rfl)) rfl w
  · obtain ⟨x, a, b, rfl, w⟩ := vc_bytecrc (L := L) (ℓ := 0) h
    exact fn_of_K (ℓ := 0) S F.f11 (ih 0 (Nat.le_of_ble_eq_true rfl)) rfl w
  · obtain ⟨x, a, b, rfl, w⟩ := vc_bytecrc_r (L := L) (ℓ := 0) h
    exact fn_of_K (ℓ := 0) S F.f12 (ih 0 (Nat.le_of_ble_eq_true rfl)) rfl w
  · obtain ⟨c, P, hC, T⟩ := F.t13
    obtain ⟨p, n, rfl, w⟩ := vc_mkTable (L := L) (ℓ := 2) (by decide) h
    obtain ⟨b, hb⟩ := F.l2
    exact table_ok S T hC (fun args objs K h => lam_ok' S hb (ih 0 (Nat.le_of_ble_eq_true rfl)) h) (ih 2 (Nat.le_of_ble_eq_true rfl)) rfl w
  · obtain ⟨c, P, hC, T⟩ := F.t14
    obtain ⟨p, n, rfl, w⟩ := vc_mkTable_r (L := L) (ℓ := 2) (by decide) h
    obtain ⟨b, hb⟩ := F.l3
    exact table_ok S T hC (fun args objs K h => lam_ok' S hb (ih 0 (Nat.le_of_ble_eq_true rfl)) h) (ih 2 (Nat.le_of_ble_eq_true rfl)) rfl w
  · obtain ⟨x, a, b, rfl, w⟩ := vc_verifyParams (L := L) (ℓ := 1) (by decide) h
    exact fn_of_K (ℓ := 1) S F.f15 (ih 1 (Nat.le_of_ble_eq_true rfl)) rfl w
  · obtain ⟨c, P, hC, T⟩ := F.m16
    exact mkFun_ok S T hC (ih 3 (Nat.le_of_ble_eq_true rfl)) h
  · exact init_ok S F.i17 (ih 4 (Nat.le_of_ble_eq_true rfl)) h
  · exact new_ok S F.cl F.i17 F.n18 (ih 0 (Nat.le_of_ble_eq_true rfl)) (ih 5 (Nat.le_of_ble_eq_true rfl)) h
  · obtain ⟨i, D, rfl, w⟩ := vc_update (L := L) (ℓ := 4) (by decide) h
    exact fn_of_K (ℓ := 4) S F.f20 (ih 4 (Nat.le_of_ble_eq_true rfl)) rfl w
  · obtain ⟨i, rfl, w⟩ := vc_digest (L := L) (ℓ := 0) h
    exact fn_of_K (ℓ := 0) S F.f21 (ih 0 (Nat.le_of_ble_eq_true rfl)) rfl w
  · obtain ⟨i, rfl, w⟩ := vc_tob (L := L) (ℓ := 0) h
    exact fn_of_K (ℓ := 0) S F.f22 (ih 0 (Nat.le_of_ble_eq_true rfl)) rfl w
  · omega
  · omega
  · omega
  · omega
  · omega
  · omega
  · have := hlaw 19 (.inl rfl) _ _ _ h (by rw [h19]; exact ih)
    rw [h19] at this; exact this
  all_goals first | exact hlaw _ (.inr ⟨by decide, by decide⟩) _ _ _ h ih | exact h.elim

theorem spOk (S : Setup K0 g N L) (F : CrcF K0 g N) (hlaw : ∀ k, LawIx k → ∀ args objs K, L.sp k args objs K → Ih g N L (L.depth k) → CallOk g (L.depth k) (.fn k) args objs K) (h19 : L.depth 19 = 7) : ∀ ℓ, SpOk g N (cT L ℓ) ℓ := by
  intro ℓ
  induction ℓ using Nat.strongRecOn with
  | ind ℓ ih =>
    have O : KOk K0 g N (cT L ℓ) := S.O.lev rfl rfl
    refine ⟨fun m => ?_, fun k args objs K hk h => ?_, fun k caps args objs K hk h => ?_, fun k args objs K hk h => ?_, O.getm, fun f hf A os ad objs s k a d es n v Q E I h1 h2 h3 h4 h => O.attr f hf A os ad objs s k a d es n v Q E I h1 h2 h3 h4 h true, O.seta, O.methA⟩
    · show miT m < 1000
      unfold miT
      split <;> decide
    · exact (fnOk S F hlaw h19 hk h.2 fun ℓ' hl => ih ℓ' (Nat.lt_of_lt_of_le hl h.1)).mono h.1
    · obtain ⟨hd, h⟩ := h
      have hd' : depthT L (2000 + 10 * caps.length + k) ≤ ℓ := hd
      generalize hm : 2000 + 10 * caps.length + k = m at hd'
      rw [hm] at h
      unfold spT at h
      split at h
      all_goals first
        | omega
        | skip
      · obtain ⟨b, hb⟩ := F.c0
        have e : k = 0 ∧ caps.length = 3 := by omega
        obtain ⟨rfl, hc⟩ := e
        have hd4 : 4 ≤ ℓ := hd'
        exact (clo0_ok S hb (ih 3 (by omega)) h hc).mono hd4
      · obtain ⟨b, hb⟩ := F.c1
        have e : k = 1 ∧ caps.length = 4 := by omega
        obtain ⟨rfl, hc⟩ := e
        have hd4 : 4 ≤ ℓ := hd'
        exact (clo1_ok S hb (ih 3 (by omega)) h hc).mono hd4
      · obtain ⟨b, hb⟩ := F.l2
        have e : k = 2 ∧ caps = [] := ⟨by omega, List.length_eq_zero_iff.mp (by omega)⟩
        obtain ⟨rfl, rfl⟩ := e
        have hd1 : 1 ≤ ℓ := hd'
        exact (lam_ok' S hb (ih 0 (by omega)) h).mono hd1
      · obtain ⟨b, hb⟩ := F.l3
        have e : k = 3 ∧ caps = [] := ⟨by omega, List.length_eq_zero_iff.mp (by omega)⟩
        obtain ⟨rfl, rfl⟩ := e
        have hd1 : 1 ≤ ℓ := hd'
        exact (lam_ok' S hb (ih 0 (by omega)) h).mono hd1
      · exact h.elim
    · obtain ⟨hd, h⟩ := h
      have hd' : depthT L (1000 + k) ≤ ℓ := hd
      generalize hm : 1000 + k = m at hd'
      rw [hm] at h
      unfold spT at h
      split at h
      all_goals first
        | omega
        | skip
      · have e : k = 0 := by omega
        subst e
        have hd1 : 1 ≤ ℓ := hd'
        exact (mk_ok S F.cl h).mono hd1
      · have e : k = 1 := by omega
        subst e
        have hd6 : 6 ≤ ℓ := hd'
        exact (make_ok S F.cl F.i17 (ih 4 (by omega)) h).mono hd6
      · exact h.elim
end
end Vc
end
section
open PySem PySem.W PyProof.Rows
set_option maxRecDepth 100000
set_option maxHeartbeats 8000000
namespace Vc
open_top hd for PySem.Challenge.rw_eg5008_03
end Vc
end
section
open PySem PySem.W PyProof.Rows PySem.Calls
set_option autoImplicit false
set_option maxRecDepth 100000
set_option linter.unusedVariables false
namespace Vc
def fnameT : Nat → Str
  | 0 => Str.ofString "digest_size" | 1 => Str.ofString "initCrc" | 2 => Str.ofString "xorOut" | 3 => Str.ofString "poly" | 4 => Str.ofString "reverse" | 5 => Str.ofString "_crc" | 6 => Str.ofString "table" | 7 => Str.ofString "crcValue" | 8 => Str.ofString "octets"
  | _ => Str.ofString ""
def mnameT : Nat → Str
  | 0 => Str.ofString "new" | 1 => Str.ofString "copy" | 2 => Str.ofString "update" | 3 => Str.ofString "digest" | 4 => Str.ofString "tobytes"
  | _ => Str.ofString ""
def gnC : List (Nat × String) := [(0, "_get_buffer_view"), (1, "_crc8"), (2, "_crc8r"), (3, "_crc16"), (4, "_crc16r"), (5, "_crc24"), (6, "_crc24r"), (7, "_crc32"), (8, "_crc32r"), (9, "_verifyPoly"), (10, "_bitrev"), (11, "_bytecrc"), (12, "_bytecrc_r"), (13, "_mkTable"), (14, "_mkTable_r"), (15, "_verifyParams"), (16, "_mkCrcFun"),
  (100, "len"), (101, "isinstance"), (102, "int"), (103, "bytes"), (104, "str"), (105, "list"), (106, "range"), (107, "enumerate"), (108, "zip"), (110, "Crc"), (111, "_View"), (112, "_sizeMap"), (113, "reduce")]
def gnT : List (Nat × String) := gnC ++ [(30, "_law_evens"), (31, "_law_share"), (32, "_law_times"), (33, "_law_euclid"), (34, "_law_halved"), (35, "_law_spelt"), (36, "_law_turned"), (37, "_law_left"), (38, "law"), (120, "_law_masks")]
def NT : Nms := ⟨fun k => (gnT.lookup k).map Str.ofString, fnameT, mnameT⟩
def faddrT : Nat → Addr
  | 0 => 67 | 1 => 74 | 2 => 81 | 3 => 88 | 4 => 95 | 5 => 102 | 6 => 109 | 7 => 116 | 8 => 123 | 23 => 130 | 24 => 137
  | 9 => 217 | 10 => 224 | 11 => 231 | 12 => 238 | 13 => 243 | 14 => 248 | 15 => 261 | 16 => 268 | 17 => 152 | 18 => 167 | 19 => 174 | 20 => 181 | 21 => 188 | 22 => 53
  | 30 => 281 | 31 => 288 | 32 => 295 | 33 => 302 | 34 => 309 | 35 => 314 | 36 => 321 | 37 => 328 | 38 => 333
  | _ => 0
def caddrT : Nat → Addr
  | 0 => 56
  | _ => 206
def bodyAt (K : Frag) (a : Addr) : List Stmt := match K.lookup a with
  | some ⟨_, _, .func fd, _⟩ => (match fd.body with | .stmts b => b | _ => [])
  | _ => []
def qualAt (K : Frag) (a : Addr) : Str := match K.lookup a with
  | some ⟨_, _, .func fd, _⟩ => fd.qualname
  | _ => Str.ofString ""
def noClo : CloT := ⟨Str.ofString "", Str.ofString "", { posonlyargs := [], args := [], vararg := none, kwonlyargs := [], kw_defaults := [], kwarg := none, defaults := [] }, .stmts [], { kind := .function, names := [], isGenerator := false, isCoroutine := false, more := [] }, []⟩
def lamAt (K : Frag) (a : Addr) : CloT := match bodyAt K a with
  | [_, _, .Assign _ (.Call _ (.Lambda params body scope _ :: _) _ _) _, _] => ⟨"<lambda>", qualAt K a ++ ".<locals>." ++ "<lambda>", params, .expr body, scope, []⟩
  | _ => noClo
def defAt (K : Frag) (a : Addr) (b : Bool) : CloT := match bodyAt K a with
  | [_, _, .If _ [.FunctionDef _ p0 b0 _ _ _ s0 _ _ _] [.FunctionDef _ p1 b1 _ _ _ s1 _ _ _] _, _] => if b then ⟨Str.ofString "crcfun", qualAt K a ++ ".<locals>." ++ Str.ofString "crcfun", p1, .stmts b1, s1, [Str.ofString "xorOut"]⟩ else ⟨Str.ofString "crcfun", qualAt K a ++ ".<locals>." ++ Str.ofString "crcfun", p0, .stmts b0, s0, []⟩
  | _ => noClo
def cloT (K : Frag) : Nat → CloT
  | 0 => defAt K 268 false
  | 1 => defAt K 268 true
  | 2 => lamAt K 243
  | 3 => lamAt K 248
  | _ => noClo
def tqT (K : Frag) : Addr → Str
  | 240 => qualAt K 243 ++ ".<locals>." ++ "<lambda>"
  | 245 => qualAt K 248 ++ ".<locals>." ++ "<lambda>"
  | _ => qualAt K 268 ++ ".<locals>." ++ Str.ofString "crcfun"
def gT (prog : Program) (w : World) (h₀ : Heap) (mg mb : Str → Option Value) (K : Frag) : G := { prog, w, h₀, mg, mb, tabs := [245, 240, 263], tq := tqT K, faddr := faddrT, caddr := caddrT, clo := cloT K, fname := fnameT }

local macro_rules | `(tactic| walk_at "b1") => `(tactic| (intro vals h; match vals, h with | [_], _ => rfl))
local macro_rules | `(tactic| walk_at "b2") => `(tactic| (intro vals h; match vals, h with | [_, _], _ => rfl))
local macro_rules | `(tactic| walk_at "b3") => `(tactic| (intro vals h; match vals, h with | [_, _, _], _ => rfl))
local macro_rules | `(tactic| walk_at "b4") => `(tactic| (intro vals h; match vals, h with | [_, _, _, _], _ => rfl))
local macro_rules | `(tactic| walk_at "b5") => `(tactic| (intro vals h; match vals, h with | [_, _, _, _, _], _ => rfl))
local macro_rules | `(tactic| walk_at "b6") => `(tactic| (intro vals h; match vals, h with | [_, _, _, _, _, _], _ => rfl))
section
variable (prog : Program) (w : World) (h₀ : Heap) (mg mb : Str → Option Value)
noncomputable abbrev KT (w : World) : Frag := hd.heap_39 w.params
noncomputable abbrev gg : G := gT prog w h₀ mg mb (KT w)
theorem k_f0 : FnK (KT w) NT (faddrT 0) nm_get_buffer_view ps_get_buffer_view x_get_buffer_view := ⟨_, _, _, ⟨rfl, rfl, rfl, rfl, rfl, rfl, rfl, rfl, by kernel_rfl, by kernel_rfl⟩, by kernel_rfl, by walk_at "b1"⟩
theorem k_f1 : FnK (KT w) NT (faddrT 1) nm_crc8 ps_crc8 x_crc8 := ⟨_, _, _, ⟨rfl, rfl, rfl, rfl, rfl, rfl, rfl, rfl, by kernel_rfl, by kernel_rfl⟩, by kernel_rfl, by walk_at "b3"⟩
theorem k_f2 : FnK (KT w) NT (faddrT 2) nm_crc8r ps_crc8r x_crc8r := ⟨_, _, _, ⟨rfl, rfl, rfl, rfl, rfl, rfl, rfl, rfl, by kernel_rfl, by kernel_rfl⟩, by kernel_rfl, by walk_at "b3"⟩
theorem k_f3 : FnK (KT w) NT (faddrT 3) nm_crc16 ps_crc16 x_crc16 := ⟨_, _, _, ⟨rfl, rfl, rfl, rfl, rfl, rfl, rfl, rfl, by kernel_rfl, by kernel_rfl⟩, by kernel_rfl, by walk_at "b3"⟩
theorem k_f4 : FnK (KT w) NT (faddrT 4) nm_crc16r ps_crc16r x_crc16r := ⟨_, _, _, ⟨rfl, rfl, rfl, rfl, rfl, rfl, rfl, rfl, by kernel_rfl, by kernel_rfl⟩, by kernel_rfl, by walk_at "b3"⟩
theorem k_f5 : FnK (KT w) NT (faddrT 5) nm_crc24 ps_crc24 x_crc24 := ⟨_, _, _, ⟨rfl, rfl, rfl, rfl, rfl, rfl, rfl, rfl, by kernel_rfl, by kernel_rfl⟩, by kernel_rfl, by walk_at "b3"⟩
theorem k_f6 : FnK (KT w) NT (faddrT 6) nm_crc24r ps_crc24r x_crc24r := ⟨_, _, _, ⟨rfl, rfl, rfl, rfl, rfl, rfl, rfl, rfl, by kernel_rfl, by kernel_rfl⟩, by kernel_rfl, by walk_at "b3"⟩
theorem k_f7 : FnK (KT w) NT (faddrT 7) nm_crc32 ps_crc32 x_crc32 := ⟨_, _, _, ⟨rfl, rfl, rfl, rfl, rfl, rfl, rfl, rfl, by kernel_rfl, by kernel_rfl⟩, by kernel_rfl, by walk_at "b3"⟩
theorem k_f8 : FnK (KT w) NT (faddrT 8) nm_crc32r ps_crc32r x_crc32r := ⟨_, _, _, ⟨rfl, rfl, rfl, rfl, rfl, rfl, rfl, rfl, by kernel_rfl, by kernel_rfl⟩, by kernel_rfl, by walk_at "b3"⟩
theorem k_f9 : FnK (KT w) NT (faddrT 9) nm_verifyPoly ps_verifyPoly x_verifyPoly := ⟨_, _, _, ⟨rfl, rfl, rfl, rfl, rfl, rfl, rfl, rfl, by kernel_rfl, by kernel_rfl⟩, by kernel_rfl, by walk_at "b1"⟩
theorem k_f10 : FnK (KT w) NT (faddrT 10) nm_bitrev ps_bitrev x_bitrev := ⟨_, _, _, ⟨rfl, rfl, rfl, rfl, rfl, rfl, rfl, rfl, by kernel_rfl, by kernel_rfl⟩, by kernel_rfl, by walk_at "b2"⟩
theorem k_f11 : FnK (KT w) NT (faddrT 11) nm_bytecrc ps_bytecrc x_bytecrc := ⟨_, _, _, ⟨rfl, rfl, rfl, rfl, rfl, rfl, rfl, rfl, by kernel_rfl, by kernel_rfl⟩, by kernel_rfl, by walk_at "b3"⟩
theorem k_f12 : FnK (KT w) NT (faddrT 12) nm_bytecrc_r ps_bytecrc_r x_bytecrc_r := ⟨_, _, _, ⟨rfl, rfl, rfl, rfl, rfl, rfl, rfl, rfl, by kernel_rfl, by kernel_rfl⟩, by kernel_rfl, by walk_at "b3"⟩
theorem k_f15 : FnK (KT w) NT (faddrT 15) nm_verifyParams ps_verifyParams x_verifyParams := ⟨_, _, _, ⟨rfl, rfl, rfl, rfl, rfl, rfl, rfl, rfl, by kernel_rfl, by kernel_rfl⟩, by kernel_rfl, by walk_at "b3"⟩
theorem k_f19 : FnK (KT w) NT (faddrT 19) nm_Crc_copy ps_Crc_copy x_Crc_copy := ⟨_, _, _, ⟨rfl, rfl, rfl, rfl, rfl, rfl, rfl, rfl, by kernel_rfl, by kernel_rfl⟩, by kernel_rfl, by walk_at "b1"⟩
theorem k_f20 : FnK (KT w) NT (faddrT 20) nm_Crc_update ps_Crc_update x_Crc_update := ⟨_, _, _, ⟨rfl, rfl, rfl, rfl, rfl, rfl, rfl, rfl, by kernel_rfl, by kernel_rfl⟩, by kernel_rfl, by walk_at "b2"⟩
theorem k_f21 : FnK (KT w) NT (faddrT 21) nm_Crc_digest ps_Crc_digest x_Crc_digest := ⟨_, _, _, ⟨rfl, rfl, rfl, rfl, rfl, rfl, rfl, rfl, by kernel_rfl, by kernel_rfl⟩, by kernel_rfl, by walk_at "b1"⟩
theorem k_f22 : FnK (KT w) NT (faddrT 22) nm_View_tobytes ps_View_tobytes x_View_tobytes := ⟨_, _, _, ⟨rfl, rfl, rfl, rfl, rfl, rfl, rfl, rfl, by kernel_rfl, by kernel_rfl⟩, by kernel_rfl, by walk_at "b1"⟩
theorem k_f30 : FnK (KT w) NT (faddrT 30) nm_law_evens ps_law_evens x_law_evens := ⟨_, _, _, ⟨rfl, rfl, rfl, rfl, rfl, rfl, rfl, rfl, by kernel_rfl, by kernel_rfl⟩, by kernel_rfl, by walk_at "b2"⟩
theorem k_f31 : FnK (KT w) NT (faddrT 31) nm_law_share ps_law_share x_law_share := ⟨_, _, _, ⟨rfl, rfl, rfl, rfl, rfl, rfl, rfl, rfl, by kernel_rfl, by kernel_rfl⟩, by kernel_rfl, by walk_at "b2"⟩
theorem k_f32 : FnK (KT w) NT (faddrT 32) nm_law_times ps_law_times x_law_times := ⟨_, _, _, ⟨rfl, rfl, rfl, rfl, rfl, rfl, rfl, rfl, by kernel_rfl, by kernel_rfl⟩, by kernel_rfl, by walk_at "b2"⟩
theorem k_f33 : FnK (KT w) NT (faddrT 33) nm_law_euclid ps_law_euclid x_law_euclid := ⟨_, _, _, ⟨rfl, rfl, rfl, rfl, rfl, rfl, rfl, rfl, by kernel_rfl, by kernel_rfl⟩, by kernel_rfl, by walk_at "b2"⟩
theorem k_f34 : FnK (KT w) NT (faddrT 34) nm_law_halved ps_law_halved x_law_halved := ⟨_, _, _, ⟨rfl, rfl, rfl, rfl, rfl, rfl, rfl, rfl, by kernel_rfl, by kernel_rfl⟩, by kernel_rfl, by walk_at "b2"⟩
theorem k_f35 : FnK (KT w) NT (faddrT 35) nm_law_spelt ps_law_spelt x_law_spelt := ⟨_, _, _, ⟨rfl, rfl, rfl, rfl, rfl, rfl, rfl, rfl, by kernel_rfl, by kernel_rfl⟩, by kernel_rfl, by walk_at "b2"⟩
theorem k_f36 : FnK (KT w) NT (faddrT 36) nm_law_turned ps_law_turned x_law_turned := ⟨_, _, _, ⟨rfl, rfl, rfl, rfl, rfl, rfl, rfl, rfl, by kernel_rfl, by kernel_rfl⟩, by kernel_rfl, by walk_at "b2"⟩
theorem k_f37 : FnK (KT w) NT (faddrT 37) nm_law_left ps_law_left x_law_left := ⟨_, _, _, ⟨rfl, rfl, rfl, rfl, rfl, rfl, rfl, rfl, by kernel_rfl, by kernel_rfl⟩, by kernel_rfl, by walk_at "b5"⟩
theorem k_f38 : FnK (KT w) NT (faddrT 38) nm_law ps_law x_law := ⟨_, _, _, ⟨rfl, rfl, rfl, rfl, rfl, rfl, rfl, rfl, by kernel_rfl, by kernel_rfl⟩, by kernel_rfl, by walk_at "b1"⟩
theorem k_i17 : InitK (KT w) NT (faddrT 17) := ⟨_, _, _, ⟨rfl, rfl, rfl, rfl, rfl, rfl, rfl, rfl, by kernel_rfl, by kernel_rfl⟩, by kernel_rfl,
  fun s X v1 v2 v3 v4 v5 => BindsTo.of_defaults rfl (X 145 _ rfl) rfl rfl rfl, _, _, fun s X v1 v2 v6 => BindsTo.of_defaults rfl (X 145 _ rfl) rfl rfl rfl⟩
theorem k_n18 : NewK (KT w) NT (faddrT 18) := ⟨_, _, _, _, _, _, _, _, _, _, _, _, _, _, ⟨rfl, rfl, rfl, rfl, rfl, rfl, rfl, rfl, by kernel_rfl, by kernel_rfl⟩, rfl, by decide +kernel, by kernel_rfl, by kernel_rfl, by kernel_rfl,
  fun s X v1 => BindsTo.of_defaults rfl (X 160 _ rfl) rfl rfl rfl, fun s X v1 v2 => BindsTo.of_defaults rfl (X 160 _ rfl) rfl rfl rfl⟩
theorem k_t13 : TableK (KT w) (gg prog w h₀ mg mb) NT (faddrT 13) 2 t_s2 t_comp 242 240 := ⟨_, _, _, _, _, _, _, _, _, _, _, _, _, _, _, _, ⟨⟨rfl, rfl, rfl, rfl, rfl, rfl, rfl, rfl, by kernel_rfl, by kernel_rfl⟩, by kernel_rfl, by kernel_rfl, by kernel_rfl, by kernel_rfl, rfl, rfl, by kernel_rfl, by decide +kernel, by kernel_rfl, rfl, rfl, by kernel_rfl, by kernel_rfl, rfl, by kernel_rfl, by simp [gT], by walk_at "b2"⟩⟩
theorem k_t14 : TableK (KT w) (gg prog w h₀ mg mb) NT (faddrT 14) 3 t_s2r t_compr 247 245 := ⟨_, _, _, _, _, _, _, _, _, _, _, _, _, _, _, _, ⟨⟨rfl, rfl, rfl, rfl, rfl, rfl, rfl, rfl, by kernel_rfl, by kernel_rfl⟩, by kernel_rfl, by kernel_rfl, by kernel_rfl, by kernel_rfl, rfl, rfl, by kernel_rfl, by decide +kernel, by kernel_rfl, rfl, rfl, by kernel_rfl, by kernel_rfl, rfl, by kernel_rfl, by simp [gT], by walk_at "b2"⟩⟩
theorem k_m16 : MkFunK (KT w) (gg prog w h₀ mg mb) NT (faddrT 16) 267 263 := ⟨_, _, _, _, _, _, _, _, _, _, _, _, _, _, _, ⟨⟨rfl, rfl, rfl, rfl, rfl, rfl, rfl, rfl, by kernel_rfl, by kernel_rfl⟩, by kernel_rfl, by kernel_rfl, by kernel_rfl, by kernel_rfl,
  ⟨rfl, rfl, fun _ => rfl, rfl, by kernel_rfl, by kernel_rfl, by kernel_rfl⟩, ⟨rfl, rfl, fun _ => rfl, rfl, by kernel_rfl, by kernel_rfl, by kernel_rfl⟩, by kernel_rfl, by kernel_rfl, by kernel_rfl, by kernel_rfl, rfl, by kernel_rfl, by simp [gT], by walk_at "b5"⟩⟩
theorem k_cl : ClsK (KT w) (gg prog w h₀ mg mb) := ⟨by kernel_rfl, by kernel_rfl, by kernel_rfl, by kernel_rfl, by kernel_rfl, by kernel_rfl, by kernel_rfl⟩
theorem k_l2 : ∃ b, LamF (gg prog w h₀ mg mb) NT 2 b := ⟨_, lamF_of rfl rfl rfl (by kernel_rfl) (by kernel_rfl) fun _ _ _ _ _ _ => rfl⟩
theorem k_l3 : ∃ b, LamF (gg prog w h₀ mg mb) NT 3 b := ⟨_, lamF_of rfl rfl rfl (by kernel_rfl) (by kernel_rfl) fun _ _ _ _ _ _ => rfl⟩
theorem k_c0 : ∃ b, CloF (gg prog w h₀ mg mb) NT 0 nm_fun0 x_fun0 [] b := ⟨_, cloF_of rfl rfl rfl (by kernel_rfl) (by kernel_rfl) fun cl dt doc pm ctv cv v1 v2 d1 d2 d3 s h => BindsTo.of_defaults rfl h rfl rfl rfl⟩
theorem k_c1 : ∃ b, CloF (gg prog w h₀ mg mb) NT 1 nm_fun1 x_fun1 [Str.ofString "xorOut"] b := ⟨_, cloF_of rfl rfl rfl (by kernel_rfl) (by kernel_rfl) fun cl dt doc pm ctv cv v1 v2 d1 d2 d3 s h => BindsTo.of_defaults rfl h rfl rfl rfl⟩
end
end Vc
end
section
open PySem PySem.W PyProof.Rows PySem.Calls
set_option autoImplicit false
set_option maxRecDepth 100000
set_option linter.unusedVariables false
namespace Vc
theorem fname_inj : ∀ f j, f < 9 → fnameT j = fnameT f → j = f := by
  intro f j hf h
  by_cases hj : j < 9
  · have key : ∀ f, f < 9 → ∀ j, j < 9 → fnameT j = fnameT f → j = f := by decide +kernel
    exact key f hf j hj h
  · exfalso
    have e : fnameT j = Str.ofString "" := by
      unfold fnameT
      split <;> first | omega | rfl
    rw [e] at h
    have key : ∀ f, f < 9 → Str.ofString "" ≠ fnameT f := by decide +kernel
    exact key f hf h
section
variable (w : World) (h₀ : Heap) (mg mb : Str → Option Value) (prog : Program)
theorem k_base (k : Nat) : findIn (KT w) (.ref (caddrT k)) "__getattribute__" = some (some (.builtin "object.__getattribute__")) ∧ findIn (KT w) (.ref (caddrT k)) "__getattr__" = some none ∧
    findIn (KT w) (.ref (caddrT k)) "__setattr__" = some (some (.builtin "object.__setattr__")) ∧ plainOver (KT w) (caddrT k) = true ∧ hasDictIn (KT w) (caddrT k) = true := by
  cases k with
  | zero => exact ⟨by kernel_rfl, by kernel_rfl, by kernel_rfl, by kernel_rfl, by kernel_rfl⟩
  | succ k =>
    show findIn (KT w) (.ref 206) "__getattribute__" = some (some (.builtin "object.__getattribute__")) ∧ findIn (KT w) (.ref 206) "__getattr__" = some none ∧
      findIn (KT w) (.ref 206) "__setattr__" = some (some (.builtin "object.__setattr__")) ∧ plainOver (KT w) 206 = true ∧ hasDictIn (KT w) 206 = true
    exact ⟨by kernel_rfl, by kernel_rfl, by kernel_rfl, by kernel_rfl, by kernel_rfl⟩
theorem all9 {p : Nat → Prop} (h0 : p 0) (h1 : p 1) (h2 : p 2) (h3 : p 3) (h4 : p 4) (h5 : p 5) (h6 : p 6) (h7 : p 7) (h8 : p 8) : ∀ f, f < 9 → p f := by
  intro f hf
  match f, hf with
  | 0, _ => exact h0
  | 1, _ => exact h1
  | 2, _ => exact h2
  | 3, _ => exact h3
  | 4, _ => exact h4
  | 5, _ => exact h5
  | 6, _ => exact h6
  | 7, _ => exact h7
  | 8, _ => exact h8
theorem all5 {p : Nat → Prop} (h0 : p 0) (h1 : p 1) (h2 : p 2) (h3 : p 3) (h4 : p 4) : ∀ f, f < 5 → p f := by
  intro f hf
  match f, hf with
  | 0, _ => exact h0
  | 1, _ => exact h1
  | 2, _ => exact h2
  | 3, _ => exact h3
  | 4, _ => exact h4
theorem k_fld (k f : Nat) (hf : f < 9) : findIn (KT w) (.ref (caddrT k)) (fnameT f) = some none := by
  cases k with
  | zero =>
    revert f
    exact all9 (by kernel_rfl) (by kernel_rfl) (by kernel_rfl) (by kernel_rfl) (by kernel_rfl) (by kernel_rfl) (by kernel_rfl) (by kernel_rfl) (by kernel_rfl)
  | succ k =>
    show findIn (KT w) (.ref 206) (fnameT f) = some none
    revert f
    exact all9 (by kernel_rfl) (by kernel_rfl) (by kernel_rfl) (by kernel_rfl) (by kernel_rfl) (by kernel_rfl) (by kernel_rfl) (by kernel_rfl) (by kernel_rfl)
theorem k_meth : ∀ m, m < 5 → findIn (KT w) (.ref (caddrT (mcT m))) (mnameT m) = some (some (.ref (faddrT (miT m)))) ∧ typeIn (KT w) (.ref (faddrT (miT m))) = some (.type "function") :=
  all5 ⟨by kernel_rfl, by kernel_rfl⟩ ⟨by kernel_rfl, by kernel_rfl⟩ ⟨by kernel_rfl, by kernel_rfl⟩ ⟨by kernel_rfl, by kernel_rfl⟩ ⟨by kernel_rfl, by kernel_rfl⟩
theorem k_apart : ∀ m, m < 5 → ∀ j, fnameT j ≠ mnameT m := by
  intro m hm j
  by_cases hj : j < 9
  · have key : ∀ m, m < 5 → ∀ j, j < 9 → fnameT j ≠ mnameT m := by decide +kernel
    exact key m hm j hj
  · have e : fnameT j = Str.ofString "" := by
      unfold fnameT
      split <;> first | omega | rfl
    rw [e]
    have key : ∀ m, m < 5 → Str.ofString "" ≠ mnameT m := by decide +kernel
    exact key m hm
theorem k_setup {L : LawP} {p : Program} {loose : List Str} {mean : ExcName → Option Value} {s₁ : Heap} (X : (KT w).In s₁) (hT : TabsAt [(247, 245), (242, 240), (267, 263)] s₁) (T : Top p loose mean mg mb s₁) (hg : gnT.all (globCk (KT w) (gg prog w (ghostOf s₁ [(247, 245), (242, 240), (267, 263)]) mg mb) (glT L)) = true) :
    Setup (KT w) (gg prog w (ghostOf s₁ [(247, 245), (242, 240), (267, 263)]) mg mb) NT L where
  O := ⟨ghost_K hT X (by kernel_rfl), k_base w, fun k f hf => k_fld w k f hf, k_meth w, k_apart⟩
  ht := fun a ha => hideAll_none _ ha
  glob := ghost_ns hT T.g
  blt := ghost_ns hT T.b
  boots := T.builtins
  nolim := let ⟨mc, a, r⟩ := T.nolimit; ⟨mc, ghost_ns hT a, r⟩
  names := fun k x h => by
    obtain ⟨y, hy, rfl⟩ := Option.map_eq_some_iff.mp (show (gnT.lookup k).map Str.ofString = some x from h)
    have : ∀ (l : List (Nat × String)) (k : Nat) (y : String), l.lookup k = some y → (k, y) ∈ l := by
      intro l
      induction l with
      | nil => intro k y h; simp at h
      | cons p r ih =>
        intro k y h
        rw [List.lookup_cons] at h
        cases e : k == p.1 with
        | true =>
          rw [e] at h
          cases h
          rw [eq_of_beq e]; simp
        | false =>
          rw [e] at h
          exact List.mem_cons_of_mem _ (ih k y h)
    have hm := this _ _ _ hy
    exact ⟨(k, y), rfl, rfl, List.all_eq_true.mp hg _ hm⟩
  hN := fun _ => rfl
  hinj := fname_inj
  bm := let ⟨bm, ob, a1, a2, a3, a4, r⟩ := T.bmain; ⟨bm, ob, a1, a2, ghost_get hT a3 (fun q => by rw [q] at a4; cases a4), a4, r⟩
theorem k_crc {s₁ : Heap} (hT : TabsAt [(247, 245), (242, 240), (267, 263)] s₁) : CrcF (KT w) (gg prog w (ghostOf s₁ [(247, 245), (242, 240), (267, 263)]) mg mb) NT := by
  obtain ⟨c1, c2, c3, _⟩ := ghost_code hT
  exact ⟨k_f0 w, k_f1 w, k_f2 w, k_f3 w, k_f4 w, k_f5 w, k_f6 w, k_f7 w, k_f8 w, k_f9 w, k_f10 w, k_f11 w, k_f12 w, k_f15 w, k_f20 w, k_f21 w, k_f22 w, ⟨_, _, c2, k_t13 ..⟩, ⟨_, _, c1, k_t14 ..⟩, ⟨_, _, c3, k_m16 ..⟩, k_i17 w, k_n18 w, k_cl .., k_l2 .., k_l3 .., k_c0 .., k_c1 ..⟩
/-- before the call -/
theorem k_inv {s₁ : Shared} (hT : TabsAt [(247, 245), (242, 240), (267, 263)] s₁.heap) : InvH (gg prog w (ghostOf s₁.heap [(247, 245), (242, 240), (267, 263)]) mg mb) [] [] [] s₁ where
  base := fun a o e => of_hideAll _ e
  fresh₀ := fun a ha => by
    rw [mem_mt] at ha
    rcases ha with q | q | q
    · cases q
    · simp [adr] at q
    · exact hideAll_none _ q
  live := fun a ha => by cases ha
  nodup := by simp [adr]
  ap1 := fun a ha => by cases ha
  ap2 := fun a ha => ⟨by simp, by simp [adr]⟩
  tabs := fun a ha => by
    obtain ⟨q, hq, rfl⟩ := List.mem_map.mp (show a ∈ [(247, 245), (242, 240), (267, 263)].map (·.2) from ha)
    exact ⟨_, (hT q hq).2, #[], rfl, trivial, fun pos cv e => by cases e⟩
  objs := ⟨rfl, fun i o p h _ => by simp at h⟩
end
end Vc
end
section
open PySem PySem.W PyProof.Rows PySem.Calls
set_option autoImplicit false
set_option maxRecDepth 100000
set_option linter.unusedVariables false
namespace Vc
def scriptV (ns : List Int) : SV := .lst (ns.map .int)
theorem ints_rep {g : G} {h : Heap} : ∀ {vs : List Value} {ns : List Int}, IntsAre vs ns → RepL g [] [] h (ns.map .int) vs := by
  intro vs ns hI
  induction hI with
  | nil => exact RepL.nil
  | cons n t _ ih => exact RepL.cons ⟨t, rfl⟩ ih
/-- the law's own part: its contracts hold -/
structure LawOk (L : LawP) : Prop where
  globs : ∀ (prog : Program) (w : World) (h₀ : Heap) (mg mb : Str → Option Value), gnT.all (globCk (KT w) (gg prog w h₀ mg mb) (glT L)) = true
  fns : ∀ (prog : Program) (w : World) (h₀ : Heap) (mg mb : Str → Option Value), Setup (KT w) (gg prog w h₀ mg mb) NT L → ∀ k, LawIx k → ∀ args objs K, L.sp k args objs K → Ih (gg prog w h₀ mg mb) NT L (L.depth k) → CallOk (gg prog w h₀ mg mb) (L.depth k) (.fn k) args objs K
  d19 : L.depth 19 = 7
  law : ∀ ns : List Int, ns.length ≤ 63 → (PyData.list (ns.map PyData.int)).layable0 = true → wpSs (cT L 8) x_law ⟨vars0 [scriptV ns] nv_law, []⟩ fun fl σ => retV fl = .bool true
theorem callerOk : AOk callerA 9 := by
  refine ⟨rfl, ?_, ?_⟩ <;> decide
set_option maxHeartbeats 8000000 in
theorem join3 {L : LawP} (V : LawOk L) : PySem.Challenge.rw_eg5008_03.Holds := by
  apply hd
  k_fill
  intro w s₀ s₁ mg mb G Y fa o pm cd doc dV kV ho hd hcd hD hmg hg args vals as hpre hlay hrd hwl hlo
  have KX := km_in_of Y
  km_tabs Y
  refine Ground.open G ?_
  intro T B D TE TW
  km_lay T hmg ho hd cd
  wrow_args hpre hlay hrd hwl hlo
  refine enter_call ?_
  kn_posts
  rename_i ns hs hl0 hL1 hr1 hl2 x1 x2 la vs x3 hL ra w1 r0 hI hr hc1 hc2
  have hlen : ns.length ≤ 63 := by omega
  have hfa : fa = 333 := by
    have e := mg_of (n := Str.ofString "law") KX T.g (v := .ref 333) (by kernel_rfl)
    have e2 : mg (Str.ofString "law") = some (.ref fa) := hmg
    rw [e] at e2
    cases e2; rfl
  subst hfa
  generalize PySem.Challenge.rw_eg5008_03.row.prog = prog
  have S := k_setup (prog := prog) (L := L) w mg mb KX hT9 T (V.globs _ _ _ _ _)
  have F := k_crc w mg mb prog hT9
  have Sp := spOk S F (V.fns _ _ _ _ _ S) V.d19 8
  have I := k_inv w mg mb prog hT9
  have hscr : s₁.heap.get? la = some (lstObj vs 0) := by
    have w1' : Well w.params s₁.heap (.ref la) (.list (ofPys (List.map PyData.int ns))) := w1
    cases w1' with
    | list hget hall =>
      obtain ⟨o', ho', hcls, n', hd'⟩ := hL
      rw [hget] at ho'
      cases ho'
      rw [hget]
      cases hd'
      rfl
  have rs : RepL (gg prog w (ghostOf s₁.heap [(247, 245), (242, 240), (267, 263)]) mg mb) [] [] s₁.heap [scriptV ns] [.ref la] := by
    refine RepL.one ⟨la, vs, 0, rfl, ⟨hscr, ?_⟩, ints_rep hI⟩
    intro hm
    rw [mem_mt] at hm
    rcases hm with q | q | q
    · cases q
    · simp [adr] at q
    · have h1 := hT8 la (by simpa [gT, or_comm, or_assoc, or_left_comm] using q)
      rw [hscr] at h1; cases h1
  refine law_of_K (k := 38) (ℓ := 8) (nv := nv_law) (K := fun r _ => r = .bool true) S (k_f38 w) Sp rfl (V.law ns hlen hL1) callerOk I rs fun v r objs' ad' s' hk hr' I' S' => ?_
  subst hk
  have hv : v = .bool true := hr'
  subst hv
  refine ⟨⟨.inl ⟨.bool true, .bool true, [], rfl, fun _ => rfl, .bool true, ?_, fun _ => ⟨List.nodup_nil, fun a ha => by cases ha⟩⟩, fun b o e => I'.base b o e, S'.rest.1, S'.rest.2.trans hg⟩, ?_⟩
  · wrow_post
  · have gr : ∀ a ∈ [245, 240, 263], GrownAt a s'.heap := fun a ha => by
      obtain ⟨o, e, ps, rfl, _⟩ := I'.tabs a ha
      exact ⟨ps, e⟩
    exact ⟨gr _ (by simp), gr _ (by simp), gr _ (by simp), trivial⟩
end Vc
end
section
open PySem PySem.W PyProof.Rows PySem.Calls
set_option autoImplicit false
set_option maxRecDepth 100000
namespace Vc
theorem lawOk3 : LawOk L3 where
  globs := fun prog w h₀ mg mb => by kernel_rfl
  d19 := rfl
  law := fun ns hl _ => vl_law3 hl
  fns := fun prog w h₀ mg mb S k hk args objs K h ih => by
    rcases hk with rfl | hk
    · obtain ⟨i, rfl, w'⟩ := vc_copy (L := L3) (ℓ := 6) (by decide) h
      exact fn_of_K (ℓ := 6) S (k_f19 w) (ih 6 (Nat.le_of_ble_eq_true rfl)) rfl w'
    · have : k = 30 ∨ k = 31 ∨ k = 32 ∨ k = 33 ∨ k = 34 ∨ k = 35 ∨ k = 36 ∨ k = 37 ∨ k = 38 ∨ k = 39 ∨ k = 40 := by omega
      rcases this with rfl | rfl | rfl | rfl | rfl | rfl | rfl | rfl | rfl | rfl | rfl
      · obtain ⟨a, b, rfl, w'⟩ := vl_evens (c := cT L3 0) h
        exact fn_of_K (ℓ := 0) S (k_f30 w) (ih 0 (Nat.le_of_ble_eq_true rfl)) rfl w'
      · obtain ⟨a, b, rfl, w'⟩ := vl_share (c := cT L3 0) h
        exact fn_of_K (ℓ := 0) S (k_f31 w) (ih 0 (Nat.le_of_ble_eq_true rfl)) rfl w'
      · obtain ⟨a, b, rfl, w'⟩ := vl_times (c := cT L3 0) h
        exact fn_of_K (ℓ := 0) S (k_f32 w) (ih 0 (Nat.le_of_ble_eq_true rfl)) rfl w'
      · obtain ⟨a, b, rfl, w'⟩ := vl_euclid (c := cT L3 0) h
        exact fn_of_K (ℓ := 0) S (k_f33 w) (ih 0 (Nat.le_of_ble_eq_true rfl)) rfl w'
      · obtain ⟨a, b, rfl, w'⟩ := vl_halved (ℓ := 1) (by decide) h
        exact fn_of_K (ℓ := 1) S (k_f34 w) (ih 1 (Nat.le_of_ble_eq_true rfl)) rfl w'
      · obtain ⟨a, b, rfl, w'⟩ := vl_spelt (ℓ := 0) h
        exact fn_of_K (ℓ := 0) S (k_f35 w) (ih 0 (Nat.le_of_ble_eq_true rfl)) rfl w'
      · obtain ⟨a, b, rfl, w'⟩ := vl_turned (ℓ := 0) h
        exact fn_of_K (ℓ := 0) S (k_f36 w) (ih 0 (Nat.le_of_ble_eq_true rfl)) rfl w'
      · obtain ⟨D, b, P, n, back, rfl, w'⟩ := vl_left (ℓ := 1) (by decide) h
        exact fn_of_K (ℓ := 1) S (k_f37 w) (ih 1 (Nat.le_of_ble_eq_true rfl)) rfl w'
      all_goals exact h.elim
theorem done3 : PySem.Challenge.rw_eg5008_03.Holds := join3 lawOk3
end Vc
end
theorem PySem.Challenge.cw_eg5008_03_holds : PySem.Challenge.rw_eg5008_03.Holds :=
  Vc.done3
