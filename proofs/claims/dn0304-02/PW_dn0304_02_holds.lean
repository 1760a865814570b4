import PyProof.Rows.All
import Wide.All
import OpenK.AllK
import Wide.FinOn
import PySem.Challenge.RW_dn0304_02
open PySem PySem.W PyProof.Rows
set_option Elab.async false
set_option maxRecDepth 100000
set_option linter.unusedVariables false
namespace Mine

/-! abstract values, abstract state -/

inductive AV where
  | unb
  | none
  | bool (b : Bool)
  | int (i : Int)
  | str (s : Str)
  | bytes (b : Array UInt8)
  | val (v : Value)
  | ins (k : Nat)
  | lob (k : Nat)
  | lst (xs : List AV)
  | tup (xs : List AV)
  | lsb (xs : List AV)

inductive Fd where
  | sys | pub | enc | byt | chr

structure Ins where
  sys : AV
  pub : AV
  enc : AV
  byt : AV
  chr : AV

def Ins.get (i : Ins) : Fd → AV
  | .sys => i.sys
  | .pub => i.pub
  | .enc => i.enc
  | .byt => i.byt
  | .chr => i.chr
def Ins.put (i : Ins) (v : AV) : Fd → Ins
  | .sys => { i with sys := v }
  | .pub => { i with pub := v }
  | .enc => { i with enc := v }
  | .byt => { i with byt := v }
  | .chr => { i with chr := v }

/-- the mutable lists: segments, one a call; ids never come again -/
abbrev LH := List (List (Nat × List AV))

structure AS where
  loc : List AV
  ins : List Ins
  lst : LH
  nl : Nat

def lookL (k : Nat) : List (Nat × List AV) → Option (List AV)
  | [] => .none
  | (j, xs) :: r => if k = j then some xs else lookL k r
def getL1 (k : Nat) : LH → Option (List AV)
  | [] => .none
  | g :: r => match lookL k g with | some xs => some xs | .none => getL1 k r
def putSeg (k : Nat) (ys : List AV) : List (Nat × List AV) → List (Nat × List AV)
  | [] => []
  | (j, xs) :: r => if k = j then (j, ys) :: r else (j, xs) :: putSeg k ys r
def putL1 (k : Nat) (ys : List AV) : LH → LH
  | [] => []
  | g :: r => match lookL k g with | some _ => putSeg k ys g :: r | .none => g :: putL1 k ys r
def pushL1 (k : Nat) (xs : List AV) : LH → LH
  | [] => [[(k, xs)]]
  | g :: r => ((k, xs) :: g) :: r

/-! the world: which address plays which part -/

inductive Role where
  | oth
  | ins (k : Nat)
  | dct (k : Nat)
  | lob (k : Nat)
  | frz (o : Obj)

structure Wd where
  role : Addr → Role
  ia : Nat → Addr
  da : Nat → Addr
  la : Nat → Addr
  ni : Nat
  nl : Nat

def Role.mut : Role → Prop
  | .ins _ | .dct _ | .lob _ => True
  | _ => False
def Wd.Mut (W : Wd) (a : Addr) : Prop := (W.role a).mut

abbrev tupOf (its : Array Value) (n : Nat) : Obj := { cls := .type "tuple", data := .seq its n }

mutual
inductive VR (W : Wd) : Value → AV → Prop
  | none : VR W .none .none
  | bool (b : Bool) : VR W (.bool b) (.bool b)
  | int (i : Int) (t : Tok) : VR W (.int i t) (.int i)
  | str (x : Str) (t : Tok) : VR W (.str x t) (.str x)
  | bytes (x : Array UInt8) (t : Tok) : VR W (.bytes x t) (.bytes x)
  | val (v : Value) (h : handedIn v = true) : VR W v (.val v)
  | ins (k : Nat) : k < W.ni → VR W (.ref (W.ia k)) (.ins k)
  | lob (k : Nat) : k < W.nl → VR W (.ref (W.la k)) (.lob k)
  | lst {a : Addr} {vs : List Value} {n : Nat} {xs : List AV} : W.role a = .frz (listOf vs.toArray n) → VRs W vs xs → VR W (.ref a) (.lst xs)
  | tup {a : Addr} {o : Obj} {vs : List Value} {n : Nat} {xs : List AV} : W.role a = .frz o → o.cls = .type "tuple" → o.data = .seq vs.toArray n → VRs W vs xs → VR W (.ref a) (.tup xs)
  | lsb {a : Addr} {o : Obj} {vs : List Value} {n : Nat} {xs : List AV} : W.role a = .frz o → o.cls = .type "list" → o.data = .seq vs.toArray n → VRs W vs xs → VR W (.ref a) (.lsb xs)
inductive VRs (W : Wd) : List Value → List AV → Prop
  | nil : VRs W [] []
  | cons {v : Value} {vs : List Value} {x : AV} {xs : List AV} : VR W v x → VRs W vs xs → VRs W (v :: vs) (x :: xs)
end

theorem VR.handed {W : Wd} {v : Value} {x : AV} (h : VR W v x) : handedIn v = true := by
  cases h <;> first | rfl | assumption

theorem VRs.length {W : Wd} {vs : List Value} {xs : List AV} (h : VRs W vs xs) : vs.length = xs.length := by
  induction vs generalizing xs with
  | nil => cases h; rfl
  | cons v vs ih => cases h with | cons _ r => rw [List.length_cons, List.length_cons, ih r]
theorem VRs.append {W : Wd} {vs ws : List Value} {xs ys : List AV} (h : VRs W vs xs) (k : VRs W ws ys) : VRs W (vs ++ ws) (xs ++ ys) := by
  induction vs generalizing xs with
  | nil => cases h; exact k
  | cons v vs ih => cases h with | cons a r => exact .cons a (ih r)
theorem VRs.get {W : Wd} {vs : List Value} {xs : List AV} (h : VRs W vs xs) {i : Nat} {x : AV} (e : xs[i]? = some x) : ∃ v, vs[i]? = some v ∧ VR W v x := by
  induction vs generalizing xs i with
  | nil => cases h; simp at e
  | cons v vs ih =>
    cases h with
    | cons a r =>
      cases i with
      | zero => simp at e; subst e; exact ⟨v, rfl, a⟩
      | succ i => simp at e; exact ih r e
theorem VRs.getv {W : Wd} {vs : List Value} {xs : List AV} (h : VRs W vs xs) {i : Nat} {v : Value} (e : vs[i]? = some v) : ∃ x, xs[i]? = some x ∧ VR W v x := by
  induction vs generalizing xs i with
  | nil => simp at e
  | cons w vs ih =>
    cases h with
    | cons a r =>
      cases i with
      | zero => simp at e; subst e; exact ⟨_, rfl, a⟩
      | succ i => simp at e; exact ih r e
theorem VRs.split {W : Wd} : ∀ {vs : List Value} {xs ys : List AV}, VRs W vs (xs ++ ys) → ∃ v1 v2, vs = v1 ++ v2 ∧ VRs W v1 xs ∧ VRs W v2 ys
  | vs, [], ys, h => ⟨[], vs, rfl, .nil, h⟩
  | _, x :: xs, ys, .cons a r => let ⟨v1, v2, e, p, q⟩ := VRs.split (xs := xs) r; ⟨_ :: v1, v2, by rw [e]; rfl, .cons a p, q⟩
theorem VRs.take {W : Wd} : ∀ {vs : List Value} {xs : List AV} (n : Nat), VRs W vs xs → VRs W (vs.take n) (xs.take n)
  | _, _, 0, _ => by simp only [List.take_zero]; exact .nil
  | _, _, n + 1, .nil => .nil
  | _, _, n + 1, .cons a r => .cons a (VRs.take n r)
theorem VRs.drop {W : Wd} : ∀ {vs : List Value} {xs : List AV} (n : Nat), VRs W vs xs → VRs W (vs.drop n) (xs.drop n)
  | _, _, 0, h => h
  | _, _, n + 1, .nil => .nil
  | _, _, n + 1, .cons _ r => VRs.drop n r
theorem VRs.set {W : Wd} {v : Value} {x : AV} (hv : VR W v x) : ∀ {vs : List Value} {xs : List AV} (n : Nat), VRs W vs xs → VRs W (vs.set n v) (xs.set n x)
  | _, _, _, .nil => .nil
  | _, _, 0, .cons _ r => .cons hv r
  | _, _, n + 1, .cons a r => .cons a (VRs.set hv n r)
theorem VRs.erase {W : Wd} : ∀ {vs : List Value} {xs : List AV} (n : Nat), VRs W vs xs → VRs W (vs.eraseIdx n) (xs.eraseIdx n)
  | _, _, _, .nil => .nil
  | _, _, 0, .cons _ r => r
  | _, _, n + 1, .cons a r => .cons a (VRs.erase n r)
theorem VRs.reverse {W : Wd} : ∀ {vs : List Value} {xs : List AV}, VRs W vs xs → VRs W vs.reverse xs.reverse
  | _, _, .nil => .nil
  | _, _, .cons a r => by rw [List.reverse_cons, List.reverse_cons]; exact (VRs.reverse r).append (.cons a .nil)
theorem VRs.replicate {W : Wd} {v : Value} {x : AV} (hv : VR W v x) : ∀ n : Nat, VRs W (List.replicate n v) (List.replicate n x)
  | 0 => .nil
  | n + 1 => .cons hv (VRs.replicate hv n)
theorem VRs.one {W : Wd} {v : Value} {x : AV} (hv : VR W v x) : VRs W [v] [x] := .cons hv .nil

/-- what W says of values, W' says too -/
structure Le (W W' : Wd) : Prop where
  ni : W.ni ≤ W'.ni
  nl : W.nl ≤ W'.nl
  ia : ∀ k, k < W.ni → W'.ia k = W.ia k
  da : ∀ k, k < W.ni → W'.da k = W.da k
  la : ∀ k, k < W.nl → W'.la k = W.la k
  frz : ∀ a o, W.role a = .frz o → W'.role a = .frz o
theorem Le.refl (W : Wd) : Le W W := ⟨Nat.le_refl _, Nat.le_refl _, fun _ _ => rfl, fun _ _ => rfl, fun _ _ => rfl, fun _ _ h => h⟩
theorem Le.trans {W W' W'' : Wd} (x : Le W W') (y : Le W' W'') : Le W W'' where
  ni := Nat.le_trans x.ni y.ni
  nl := Nat.le_trans x.nl y.nl
  ia := fun k h => (y.ia k (Nat.lt_of_lt_of_le h x.ni)).trans (x.ia k h)
  da := fun k h => (y.da k (Nat.lt_of_lt_of_le h x.ni)).trans (x.da k h)
  la := fun k h => (y.la k (Nat.lt_of_lt_of_le h x.nl)).trans (x.la k h)
  frz := fun a o h => y.frz a o (x.frz a o h)

mutual
theorem VR.mono {W W' : Wd} (L : Le W W') : ∀ {v : Value} {x : AV}, VR W v x → VR W' v x
  | _, _, .none => .none
  | _, _, .bool b => .bool b
  | _, _, .int i t => .int i t
  | _, _, .str x t => .str x t
  | _, _, .bytes x t => .bytes x t
  | _, _, .val v h => .val v h
  | _, _, .ins k h => by rw [← L.ia k h]; exact .ins k (Nat.lt_of_lt_of_le h L.ni)
  | _, _, .lob k h => by rw [← L.la k h]; exact .lob k (Nat.lt_of_lt_of_le h L.nl)
  | _, _, .lst h r => .lst (L.frz _ _ h) (VRs.mono L r)
  | _, _, .tup h h1 h2 r => .tup (L.frz _ _ h) h1 h2 (VRs.mono L r)
  | _, _, .lsb h h1 h2 r => .lsb (L.frz _ _ h) h1 h2 (VRs.mono L r)
theorem VRs.mono {W W' : Wd} (L : Le W W') : ∀ {vs : List Value} {xs : List AV}, VRs W vs xs → VRs W' vs xs
  | _, _, .nil => .nil
  | _, _, .cons a r => .cons (VR.mono L a) (VRs.mono L r)
end

/-! the fields of an instance -/
def fkey : Fd → Str
  | .sys => Str.ofString "_InputSource__system_id"
  | .pub => Str.ofString "_InputSource__public_id"
  | .enc => Str.ofString "_InputSource__encoding"
  | .byt => Str.ofString "_InputSource__bytefile"
  | .chr => Str.ofString "_InputSource__charfile"

inductive FieldsAre (W : Wd) : List DictEntry → Ins → Prop
  | mk {h1 h2 h3 h4 h5 : Int} {t1 t2 t3 t4 t5 : Tok} {v1 v2 v3 v4 v5 : Value} {i : Ins} :
      VR W v1 i.sys → VR W v2 i.pub → VR W v3 i.enc → VR W v4 i.byt → VR W v5 i.chr →
      FieldsAre W [⟨h1, .str (fkey .sys) t1, v1⟩, ⟨h2, .str (fkey .pub) t2, v2⟩, ⟨h3, .str (fkey .enc) t3, v3⟩, ⟨h4, .str (fkey .byt) t4, v4⟩, ⟨h5, .str (fkey .chr) t5, v5⟩] i

theorem FieldsAre.mono {W W' : Wd} (L : Le W W') {es : List DictEntry} {i : Ins} (h : FieldsAre W es i) : FieldsAre W' es i := by
  cases h with
  | mk a b c d e => exact .mk (a.mono L) (b.mono L) (c.mono L) (d.mono L) (e.mono L)

theorem fkey_is (f g : Fd) : (fkey f == fkey g) = decide (f.ctorIdx = g.ctorIdx) := by
  cases f <;> cases g <;> decide +kernel

theorem FieldsAre.get {W : Wd} {es : List DictEntry} {i : Ins} (h : FieldsAre W es i) (f : Fd) : ∃ v, PySem.W.getL (fkey f) es = some (some v) ∧ VR W v (i.get f) := by
  cases h with
  | mk a b c d e =>
    cases f <;> simp only [PySem.W.getL, List.find?, Value.isStr, fkey_is]
    · exact ⟨_, rfl, a⟩
    · exact ⟨_, rfl, b⟩
    · exact ⟨_, rfl, c⟩
    · exact ⟨_, rfl, d⟩
    · exact ⟨_, rfl, e⟩

theorem FieldsAre.put {W : Wd} {es : List DictEntry} {i : Ins} (h : FieldsAre W es i) (f : Fd) {v : Value} {x : AV} (hv : VR W v x) (hsh : Int) (key : Value) :
    FieldsAre W (PySem.W.putL (fkey f) hsh key v es) (i.put x f) := by
  cases h with
  | mk a b c d e =>
    cases f <;> simp only [PySem.W.putL, Value.isStr, fkey_is]
    · exact .mk hv b c d e
    · exact .mk a hv c d e
    · exact .mk a b hv d e
    · exact .mk a b c hv e
    · exact .mk a b c d hv

theorem FieldsAre.len {W : Wd} {es : List DictEntry} {i : Ins} (h : FieldsAre W es i) : es.length = 5 := by cases h; rfl

end Mine

namespace Mine

/-! the ground: what stands throughout -/
structure Cx where
  prog : Program
  w : World
  K : Frag
  C : Addr
  h0 : Heap
  mg : Str → Option Value
  mb : Str → Option Value

structure HR (c : Cx) (W : Wd) (st : AS) (h : Heap) : Prop where
  keep : ∀ a o, c.h0.get? a = some o → h.get? a = some o
  mutA : ∀ a, W.Mut a → c.h0.get? a = .none
  lt : ∀ a, W.role a = .oth ∨ ∃ o, h.get? a = some o
  frz : ∀ a o, W.role a = .frz o → h.get? a = some o
  ni : W.ni = st.ins.length
  nl : W.nl = st.nl
  iaR : ∀ k, k < W.ni → W.role (W.ia k) = .ins k ∧ W.role (W.da k) = .dct k
  insA : ∀ k i, st.ins[k]? = some i → ∃ es n, h.get? (W.ia k) = some (instObj c.C (W.da k)) ∧ h.get? (W.da k) = some (dictOf es n) ∧ FieldsAre W es i
  lstA : ∀ g ∈ st.lst, ∀ p ∈ g, p.1 < W.nl ∧ W.role (W.la p.1) = .lob p.1 ∧ ∃ vs n, h.get? (W.la p.1) = some (listOf vs.toArray n) ∧ VRs W vs p.2
  nodup : (st.lst.flatten.map (·.1)).Nodup

/-- the static side of a block: its table of names, its variables by number, those it may store -/
structure Sx where
  sc : Scope
  vars : List Str
  wr : List Str

structure Pl where
  A : Around
  sx : Sx
  env : Env
  wc : List Addr

def Pl.Own (p : Pl) (a : Addr) : Prop := a = p.env.locals ∨ a ∈ p.wc

structure FrV (c : Cx) (p : Pl) (W : Wd) (loc : List AV) (h : Heap) : Prop where
  ns : ∃ ml, h.Ns p.env.locals ml ∧ ∀ (i : Nat) (x : Str) (v : AV), p.sx.vars[i]? = some x → loc[i]? = some v → v ≠ .unb → p.env.kindOf x = some .local → ∃ val, ml x = some val ∧ VR W val v
  cl : ∀ (i : Nat) (x : Str) (v : AV), p.sx.vars[i]? = some x → loc[i]? = some v → v ≠ .unb → p.env.kindOf x = some .cell → ∃ val a, p.env.cells.lookup x = some a ∧ h.IsCell a (some val) ∧ VR W val v
  cells : ∀ x a, p.env.cells.lookup x = some a → ∃ v, h.IsCell a v
  hasCell : ∀ x, x ∈ p.sx.wr → p.env.kindOf x = some .cell → ∃ a, p.env.cells.lookup x = some a ∧ a ∈ p.wc
  kinds : ∀ x, x ∈ p.sx.vars → p.env.kindOf x = some .local ∨ p.env.kindOf x = some .cell
  apart : p.env.cells.Pairwise fun x y => x.2 ≠ y.2
  wcIn : ∀ a ∈ p.wc, ∃ x, p.env.cells.lookup x = some a
  roleL : W.role p.env.locals = .oth
  roleC : ∀ x a, p.env.cells.lookup x = some a → W.role a = .oth ∧ a ≠ p.env.locals ∧ c.h0.get? a = .none
  lo : c.h0.get? p.env.locals = .none
  scope : p.env.scope = p.sx.sc
  kind : p.sx.sc.kind = .function
  globals : p.env.globals = mainGlobals
  builtins : p.env.builtins = builtinsNs
  nodup : p.sx.vars.Nodup

structure Inv (c : Cx) (p : Pl) (W : Wd) (st : AS) (s : Shared) : Prop where
  hr : HR c W st s.heap
  fr : FrV c p W st.loc s.heap

structure Ext (own : Addr → Prop) (W : Wd) (s : Shared) (W' : Wd) (s' : Shared) : Prop where
  le : Le W W'
  alive : ∀ a o, s.heap.get? a = some o → ∃ o', s'.heap.get? a = some o'
  oth : ∀ a o, s.heap.get? a = some o → W.role a = .oth → W'.role a = .oth
  kept : ∀ a o, ¬ W.Mut a → ¬ own a → s.heap.get? a = some o → s'.heap.get? a = some o
  gens : s'.gens = s.gens
  os : s'.os = s.os

theorem Role.cases_mut (r : Role) : r.mut ∨ r = .oth ∨ ∃ o, r = .frz o := by
  cases r <;> simp [Role.mut]

theorem Ext.unmut {own : Addr → Prop} {W W' : Wd} {s s' : Shared} (x : Ext own W s W' s') {a : Addr} {o : Obj} (ha : s.heap.get? a = some o) (hm : ¬ W.Mut a) : ¬ W'.Mut a := by
  rcases Role.cases_mut (W.role a) with h | h | ⟨o, h⟩
  · exact absurd h hm
  · unfold Wd.Mut; rw [x.oth a _ ha h]; simp [Role.mut]
  · unfold Wd.Mut; rw [x.le.frz a o h]; simp [Role.mut]

theorem Ext.refl (own : Addr → Prop) (W : Wd) (s : Shared) : Ext own W s W s :=
  ⟨Le.refl W, fun _ o h => ⟨o, h⟩, fun _ _ _ h => h, fun _ _ _ _ h => h, rfl, rfl⟩
theorem Ext.trans {own : Addr → Prop} {W W' W'' : Wd} {s s' s'' : Shared} (x : Ext own W s W' s') (y : Ext own W' s' W'' s'') : Ext own W s W'' s'' where
  le := x.le.trans y.le
  alive := fun a o h => let ⟨o1, h1⟩ := x.alive a o h; y.alive a o1 h1
  oth := fun a o h e => let ⟨o1, h1⟩ := x.alive a o h; y.oth a o1 h1 (x.oth a o h e)
  kept := fun a o hm ho e => y.kept a o (x.unmut e hm) ho (x.kept a o hm ho e)
  gens := y.gens.trans x.gens
  os := y.os.trans x.os
theorem Ext.weaken {own own' : Addr → Prop} {W W' : Wd} {s s' : Shared} (x : Ext own W s W' s') (h : ∀ a, own a → own' a) : Ext own' W s W' s' :=
  ⟨x.le, x.alive, x.oth, fun a o hm ho e => x.kept a o hm (fun q => ho (h a q)) e, x.gens, x.os⟩
/-- own addresses that are new do not count -/
theorem Ext.fresh {own own' : Addr → Prop} {W W' : Wd} {s s' : Shared} (x : Ext own W s W' s') (h : ∀ a, own a → s.heap.get? a = .none) : Ext own' W s W' s' :=
  ⟨x.le, x.alive, x.oth, fun a o hm _ e => x.kept a o hm (fun q => by rw [h a q] at e; cases e) e, x.gens, x.os⟩
theorem Ext.toks {own : Addr → Prop} {W W' : Wd} {s s' : Shared} (x : Ext own W s W' s') (tk : Nat) : Ext own W s W' { s' with toks := tk } :=
  ⟨x.le, x.alive, x.oth, x.kept, x.gens, x.os⟩

theorem Heap.IsCell.at' {h h' : Heap} {a : Addr} {v : Option Value} (x : h.IsCell a v) (k : ∀ o, h.get? a = some o → h'.get? a = some o) : h'.IsCell a v :=
  let ⟨o, ho, hd⟩ := x; ⟨o, k o ho, hd⟩
theorem Heap.Ns.at' {h h' : Heap} {a : Addr} {m : Str → Option Value} (x : h.Ns a m) (k : ∀ o, h.get? a = some o → h'.get? a = some o) : h'.Ns a m :=
  let ⟨o, es, ep, ho, r⟩ := x; ⟨o, es, ep, k o ho, r⟩

/-- a step that does not write the frame keeps it -/
theorem FrV.ext {c : Cx} {p : Pl} {W W' : Wd} {loc : List AV} {s s' : Shared} {own : Addr → Prop} (F : FrV c p W loc s.heap) (x : Ext own W s W' s')
    (hL : ¬ own p.env.locals) (hC : ∀ y a, p.env.cells.lookup y = some a → ¬ own a) : FrV c p W' loc s'.heap := by
  have kL : ∀ o, s.heap.get? p.env.locals = some o → s'.heap.get? p.env.locals = some o := fun o e => x.kept _ o (by unfold Wd.Mut; rw [F.roleL]; simp [Role.mut]) hL e
  have kC : ∀ y a, p.env.cells.lookup y = some a → ∀ o, s.heap.get? a = some o → s'.heap.get? a = some o := fun y a hm o e => x.kept _ o (by unfold Wd.Mut; rw [(F.roleC y a hm).1]; simp [Role.mut]) (hC y a hm) e
  obtain ⟨ml, hns, hml⟩ := F.ns
  refine ⟨⟨ml, Heap.Ns.at' hns kL, fun i y v h1 h2 h3 h4 => ?_⟩, fun i y v h1 h2 h3 h4 => ?_, fun y a e => ?_, F.hasCell, F.kinds, F.apart, F.wcIn, (let ⟨_, _, _, ho, _⟩ := hns; x.oth _ _ ho F.roleL), fun y a hm => ?_, F.lo, F.scope, F.kind, F.globals, F.builtins, F.nodup⟩
  · obtain ⟨val, e, r⟩ := hml i y v h1 h2 h3 h4; exact ⟨val, e, r.mono x.le⟩
  · obtain ⟨val, a, e, q, r⟩ := F.cl i y v h1 h2 h3 h4; exact ⟨val, a, e, Heap.IsCell.at' q (kC y a e), r.mono x.le⟩
  · obtain ⟨v, q⟩ := F.cells y a e; exact ⟨v, Heap.IsCell.at' q (kC y a e)⟩
  · obtain ⟨r1, r2, r3⟩ := F.roleC y a hm
    obtain ⟨v, q⟩ := F.cells y a hm
    exact ⟨(let ⟨_, ho, _⟩ := q; x.oth a _ ho r1), r2, r3⟩

/-! a tree does what an abstract computation says -/
def Ok (c : Cx) (p : Pl) {α β : Type} (W0 : Wd) (t : Sem α) (R : Wd → α → β → Prop) (f : AS → Option (β × AS)) : Prop :=
  ∀ (W : Wd) (st : AS) (s : Shared), Le W0 W → Inv c p W st s → ∀ (b : β) (st' : AS), f st = some (b, st') →
    ∀ (Q : α → Shared → Prop) (E : Value → Shared → Prop), (∀ W' a s', Ext p.Own W s W' s' → Inv c p W' st' s' → R W' a b → Q a s') → wpAny (model c.prog c.w) p.A t Q E s

def bd {α β : Type} (f : AS → Option (α × AS)) (g : α → AS → Option (β × AS)) : AS → Option (β × AS) := fun st =>
  match f st with
  | some (a, st') => g a st'
  | .none => .none
def pu {α : Type} (a : α) : AS → Option (α × AS) := fun st => some (a, st)
def no {α : Type} : AS → Option (α × AS) := fun _ => .none

theorem bd_some {α β : Type} {f : AS → Option (α × AS)} {g : α → AS → Option (β × AS)} {st st' : AS} {b : β} (h : bd f g st = some (b, st')) : ∃ a st1, f st = some (a, st1) ∧ g a st1 = some (b, st') := by
  unfold bd at h
  split at h
  · exact ⟨_, _, by assumption, h⟩
  · cases h

theorem Ok.bind {c : Cx} {p : Pl} {α β γ δ : Type} {W0 : Wd} {t : Sem α} {k : α → Sem γ} {R : Wd → α → β → Prop} {R' : Wd → γ → δ → Prop} {f : AS → Option (β × AS)} {g : β → AS → Option (δ × AS)}
    (h1 : Ok c p W0 t R f) (h2 : ∀ W1 a b, Le W0 W1 → R W1 a b → Ok c p W1 (k a) R' (g b)) : Ok c p W0 (t >>= k) R' (bd f g) := by
  intro W st s hle I b st' e Q E hQ
  obtain ⟨a, st1, e1, e2⟩ := bd_some e
  refine wpAny_bind (h1 W st s hle I a st1 e1 _ E fun W1 va s1 x1 I1 r1 => ?_)
  exact h2 W1 va a (hle.trans x1.le) r1 W1 st1 s1 (Le.refl _) I1 b st' e2 Q E fun W2 vb s2 x2 I2 r2 => hQ W2 vb s2 (x1.trans x2) I2 r2

theorem Ok.pure {c : Cx} {p : Pl} {α β : Type} {W0 : Wd} {a : α} {b : β} {R : Wd → α → β → Prop} (h : ∀ W, Le W0 W → R W a b) : Ok c p W0 (Pure.pure a) R (pu b) := by
  intro W st s hle I b' st' e Q E hQ
  cases e
  exact wpAny_pure (hQ W a s (Ext.refl ..) I (h W hle))

theorem Ok.le {c : Cx} {p : Pl} {α β : Type} {W0 W1 : Wd} {t : Sem α} {R : Wd → α → β → Prop} {f : AS → Option (β × AS)} (h : Ok c p W0 t R f) (hl : Le W0 W1) : Ok c p W1 t R f :=
  fun W st s hle => h W st s (hl.trans hle)

/-- a rule of the library's «wpAny t' Q → wpAny t Q» kind carries over -/
theorem Ok.of {c : Cx} {p : Pl} {α β : Type} {W0 : Wd} {t t' : Sem α} {R : Wd → α → β → Prop} {f : AS → Option (β × AS)} (h : Ok c p W0 t' R f)
    (k : ∀ (s : Shared) (Q : α → Shared → Prop) (E : Value → Shared → Prop), wpAny (model c.prog c.w) p.A t' Q E s → wpAny (model c.prog c.w) p.A t Q E s) : Ok c p W0 t R f :=
  fun W st s hle I b st' e Q E hQ => k s Q E (h W st s hle I b st' e Q E hQ)
theorem Ok.mono {c : Cx} {p : Pl} {α β : Type} {W0 : Wd} {t : Sem α} {R R' : Wd → α → β → Prop} {f : AS → Option (β × AS)} (h : Ok c p W0 t R f) (k : ∀ W a b, Le W0 W → R W a b → R' W a b) : Ok c p W0 t R' f :=
  fun W st s hle I b st' e Q E hQ => h W st s hle I b st' e Q E fun W' a s' x I' r => hQ W' a s' x I' (k W' a b (hle.trans x.le) r)
/-- a smaller computation -/
theorem Ok.sub {c : Cx} {p : Pl} {α β : Type} {W0 : Wd} {t : Sem α} {R : Wd → α → β → Prop} {f f' : AS → Option (β × AS)} (h : Ok c p W0 t R f) (k : ∀ st b st', f' st = some (b, st') → f st = some (b, st')) : Ok c p W0 t R f' :=
  fun W st s hle I b st' e Q E hQ => h W st s hle I b st' (k _ _ _ e) Q E hQ

theorem Inv.toks {c : Cx} {p : Pl} {W : Wd} {st : AS} {s : Shared} (I : Inv c p W st s) (tk : Nat) : Inv c p W st { s with toks := tk } := ⟨I.hr, I.fr⟩

/-! room -/
def Room (n : Nat) (A : Around) : Prop := A.handled = .none ∧ A.depth + 2 * n ≤ 900 ∧ A.units + 100 * n + 100 ≤ 9000
theorem Room.units {n : Nat} {A : Around} (h : Room n A) : A.units + 64 < cLine := by have := h.2.2; unfold cLine; omega
theorem Room.depth {n : Nat} {A : Around} (h : Room n A) : A.depth < recursionLimit := by have := h.2.1; unfold recursionLimit; omega
theorem Room.deeper {n : Nat} {A : Around} (h : Room (n + 1) A) (env : Env) : Room n (A.deeper env) :=
  ⟨h.1, by have := h.2.1; show A.depth + 1 + 2 * n ≤ 900; omega, by have := h.2.2; show A.units + 3 + 100 * n + 100 ≤ 9000; omega⟩
theorem Room.mono {n m : Nat} {A : Around} (h : Room n A) (k : m ≤ n) : Room m A := ⟨h.1, by have := h.2.1; omega, by have := h.2.2; omega⟩

def ImplE (c : Cx) (n : Nat) (sx : Sx) (e : Expr) (f : AS → Option (AV × AS)) : Prop := ∀ p : Pl, p.sx = sx → Room n p.A → ∀ W0, Ok c p W0 (eval e p.env) VR f

end Mine

namespace Mine

/-! how the relation stands when the heap grows or changes -/

theorem HR.grow {c : Cx} {W : Wd} {st : AS} {h h' : Heap} (H : HR c W st h) (k : ∀ b o, ((∃ o', c.h0.get? b = some o') ∨ W.role b ≠ .oth) → h.get? b = some o → h'.get? b = some o) : HR c W st h' where
  keep := fun a o e => k a o (.inl ⟨o, e⟩) (H.keep a o e)
  mutA := H.mutA
  lt := fun a => by
    rcases Classical.em (W.role a = .oth) with q | q
    · exact .inl q
    · exact (H.lt a).imp id fun ⟨o, h⟩ => ⟨o, k a o (.inr q) h⟩
  frz := fun a o e => k a o (.inr (by rw [e]; intro q; cases q)) (H.frz a o e)
  ni := H.ni
  nl := H.nl
  iaR := H.iaR
  insA := fun q i e => by
    obtain ⟨es, n, e1, e2, r⟩ := H.insA q i e
    have hq : q < W.ni := by rw [H.ni]; exact (List.getElem?_eq_some_iff.mp e).1
    obtain ⟨r1, r2⟩ := H.iaR q hq
    exact ⟨es, n, k _ _ (.inr (by rw [r1]; intro q; cases q)) e1, k _ _ (.inr (by rw [r2]; intro q; cases q)) e2, r⟩
  lstA := fun g hg p hp => by
    obtain ⟨h1, h2, vs, n, h3, h4⟩ := H.lstA g hg p hp
    exact ⟨h1, h2, vs, n, k _ _ (.inr (by rw [h2]; intro q; cases q)) h3, h4⟩
  nodup := H.nodup

theorem FrV.grow {c : Cx} {p : Pl} {W : Wd} {loc : List AV} {h h' : Heap} (F : FrV c p W loc h) (k : ∀ b o, (b = p.env.locals ∨ ∃ x, p.env.cells.lookup x = some b) → h.get? b = some o → h'.get? b = some o) : FrV c p W loc h' := by
  obtain ⟨ml, hns, hml⟩ := F.ns
  refine ⟨⟨ml, Heap.Ns.at' hns fun o e => k _ _ (.inl rfl) e, hml⟩, fun i y v h1 h2 h3 h4 => ?_, fun y a e => ?_, F.hasCell, F.kinds, F.apart, F.wcIn, F.roleL, F.roleC, F.lo, F.scope, F.kind, F.globals, F.builtins, F.nodup⟩
  · obtain ⟨val, a, e, q, r⟩ := F.cl i y v h1 h2 h3 h4
    exact ⟨val, a, e, Heap.IsCell.at' q fun o e' => k _ _ (.inr ⟨y, e⟩) e', r⟩
  · obtain ⟨v, q⟩ := F.cells y a e
    exact ⟨v, Heap.IsCell.at' q fun o e' => k _ _ (.inr ⟨y, e⟩) e'⟩

theorem FrV.localsLt {c : Cx} {p : Pl} {W : Wd} {loc : List AV} {h : Heap} (F : FrV c p W loc h) : p.env.locals < h.objs.size := let ⟨_, e, _⟩ := F.ns; e.lt
theorem FrV.cellLt {c : Cx} {p : Pl} {W : Wd} {loc : List AV} {h : Heap} (F : FrV c p W loc h) {x : Str} {a : Addr} (hm : p.env.cells.lookup x = some a) : a < h.objs.size := let ⟨_, q⟩ := F.cells x a hm; q.lt
theorem FrV.ownLt {c : Cx} {p : Pl} {W : Wd} {loc : List AV} {h : Heap} (F : FrV c p W loc h) {a : Addr} (hm : p.Own a) : a < h.objs.size := by
  rcases hm with rfl | hm
  · exact F.localsLt
  · obtain ⟨x, hx⟩ := F.wcIn a hm; exact F.cellLt hx
theorem FrV.ownOth {c : Cx} {p : Pl} {W : Wd} {loc : List AV} {h : Heap} (F : FrV c p W loc h) {a : Addr} (hm : p.Own a) : W.role a = .oth := by
  rcases hm with rfl | hm
  · exact F.roleL
  · obtain ⟨x, hx⟩ := F.wcIn a hm; exact (F.roleC x a hx).1
theorem FrV.mono {c : Cx} {p : Pl} {W W' : Wd} {loc : List AV} {h : Heap} (F : FrV c p W loc h) (L : Le W W') (hL : W'.role p.env.locals = .oth) (hC : ∀ x a, p.env.cells.lookup x = some a → W'.role a = .oth) : FrV c p W' loc h := by
  obtain ⟨ml, hns, hml⟩ := F.ns
  refine ⟨⟨ml, hns, fun i y v h1 h2 h3 h4 => ?_⟩, fun i y v h1 h2 h3 h4 => ?_, F.cells, F.hasCell, F.kinds, F.apart, F.wcIn, hL, fun x a hm => ⟨hC x a hm, (F.roleC x a hm).2⟩, F.lo, F.scope, F.kind, F.globals, F.builtins, F.nodup⟩
  · obtain ⟨val, e, r⟩ := hml i y v h1 h2 h3 h4; exact ⟨val, e, r.mono L⟩
  · obtain ⟨val, a, e, q, r⟩ := F.cl i y v h1 h2 h3 h4; exact ⟨val, a, e, q, r.mono L⟩

/-- an address of no role that is none of the frame's changes, or new ones come -/
theorem Inv.poke {c : Cx} {p : Pl} {W : Wd} {st : AS} {s s' : Shared} {a : Addr} (I : Inv c p W st s) (x : Heap.ExtBut a s.heap s'.heap)
    (hr : W.role a = .oth) (hlo : c.h0.get? a = .none) (hL : a ≠ p.env.locals) (hC : ∀ y, p.env.cells.lookup y ≠ some a) : Inv c p W st s' := by
  refine ⟨I.hr.grow (fun b o hb e => x b o (fun q => ?_) e), I.fr.grow fun b o hb e => x b o (fun q => ?_) e⟩
  · subst q
    rcases hb with ⟨o', hb⟩ | hb
    · rw [hlo] at hb; cases hb
    · exact hb hr
  · subst q
    rcases hb with hb | ⟨y, hb⟩
    · exact hL hb
    · exact hC y hb
theorem Inv.keeps {c : Cx} {p : Pl} {W : Wd} {st : AS} {s s' : Shared} (I : Inv c p W st s) (x : ∀ b o, s.heap.get? b = some o → s'.heap.get? b = some o) : Inv c p W st s' :=
  ⟨I.hr.grow (fun b o _ e => x b o e), I.fr.grow fun b o _ e => x b o e⟩
theorem Ext.keeps (own : Addr → Prop) (W : Wd) {s s' : Shared} (x : ∀ b o, s.heap.get? b = some o → s'.heap.get? b = some o) (hg : s'.gens = s.gens) (ho : s'.os = s.os) : Ext own W s W s' :=
  ⟨Le.refl W, fun a o e => ⟨o, x a o e⟩, fun _ _ _ h => h, fun a o _ _ e => x a o e, hg, ho⟩
/-- a change at an address that is new since s -/
theorem Ext.poke {own : Addr → Prop} {W W' : Wd} {s s' s'' : Shared} {a : Addr} (x : Ext own W s W' s') (k : Heap.ExtBut a s'.heap s''.heap) (ha : s.heap.get? a = .none)
    (hg : s''.gens = s'.gens) (ho : s''.os = s'.os) : Ext own W s W' s'' :=
  have ne : ∀ b o, s.heap.get? b = some o → b ≠ a := fun b o e q => by rw [q, ha] at e; cases e
  ⟨x.le, fun b o e => let ⟨o1, e1⟩ := x.alive b o e; ⟨o1, k b o1 (ne b o e) e1⟩, x.oth, fun b o hm hb e => k b o (ne b o e) (x.kept b o hm hb e), hg.trans x.gens, ho.trans x.os⟩

/-! a new role -/
def Wd.set (W : Wd) (a : Addr) (r : Role) : Wd := { W with role := fun b => if b = a then r else W.role b }

theorem Wd.set_role (W : Wd) (a b : Addr) (r : Role) : (W.set a r).role b = if b = a then r else W.role b := rfl
theorem Wd.set_other {W : Wd} {a b : Addr} {r : Role} (h : b ≠ a) : (W.set a r).role b = W.role b := if_neg h
theorem Wd.set_self {W : Wd} {a : Addr} {r : Role} : (W.set a r).role a = r := if_pos rfl

theorem Le.set {W : Wd} {a : Addr} {r : Role} (h : W.role a = .oth) : Le W (W.set a r) :=
  ⟨Nat.le_refl _, Nat.le_refl _, fun _ _ => rfl, fun _ _ => rfl, fun _ _ => rfl, fun b o e => by
    rw [Wd.set_other]; exact e
    intro q; rw [q, h] at e; cases e⟩

theorem get_none_of_ge {h : Heap} {a : Addr} (ha : h.objs.size ≤ a) : h.get? a = .none := by
  cases e : h.get? a with
  | none => rfl
  | some o => exact absurd (Heap.lt_size e) (Nat.not_lt.mpr ha)
theorem HR.oth_of_none {c : Cx} {W : Wd} {st : AS} {h : Heap} (H : HR c W st h) {a : Addr} (ha : h.get? a = .none) : W.role a = .oth :=
  (H.lt a).elim id fun ⟨o, q⟩ => by rw [ha] at q; cases q
theorem HR.oth_of_ge {c : Cx} {W : Wd} {st : AS} {h : Heap} (H : HR c W st h) {a : Addr} (ha : h.objs.size ≤ a) : W.role a = .oth := H.oth_of_none (get_none_of_ge ha)
theorem HR.base_none {c : Cx} {W : Wd} {st : AS} {h : Heap} (H : HR c W st h) {a : Addr} (ha : h.get? a = .none) : c.h0.get? a = .none := by
  cases e : c.h0.get? a with
  | none => rfl
  | some o => rw [H.keep a o e] at ha; cases ha

theorem HR.newFrz {c : Cx} {W : Wd} {st : AS} {h : Heap} {a : Addr} {o : Obj} (H : HR c W st h) (hr : W.role a = .oth) (ho : h.get? a = some o) : HR c (W.set a (.frz o)) st h := by
  have L : Le W (W.set a (.frz o)) := Le.set hr
  have ne : ∀ b, W.role b ≠ .oth → (W.set a (.frz o)).role b = W.role b := fun b hb => Wd.set_other fun q => hb (q ▸ hr)
  refine ⟨H.keep, fun b hb => ?_, fun b => ?_, fun b o' e => ?_, H.ni, H.nl, fun k hk => ?_, fun k i e => ?_, fun g hg p hp => ?_, H.nodup⟩
  · refine H.mutA b ?_
    unfold Wd.Mut at hb ⊢
    rw [Wd.set_role] at hb
    split at hb
    · exact hb.elim
    · exact hb
  · rw [Wd.set_role]
    split
    · rename_i q; subst q; exact .inr ⟨o, ho⟩
    · exact H.lt b
  · rw [Wd.set_role] at e
    split at e
    · rename_i q; subst q; cases e; exact ho
    · exact H.frz b o' e
  · obtain ⟨r1, r2⟩ := H.iaR k hk
    exact ⟨(ne (W.ia k) (by rw [r1]; intro q; cases q)).trans r1, (ne (W.da k) (by rw [r2]; intro q; cases q)).trans r2⟩
  · obtain ⟨es, n, e1, e2, r⟩ := H.insA k i e
    exact ⟨es, n, e1, e2, r.mono L⟩
  · obtain ⟨h1, h2, vs, n, h3, h4⟩ := H.lstA g hg p hp
    exact ⟨h1, (ne (W.la p.1) (by rw [h2]; intro q; cases q)).trans h2, vs, n, h3, h4.mono L⟩

theorem Inv.newFrz {c : Cx} {p : Pl} {W : Wd} {st : AS} {s : Shared} {a : Addr} {o : Obj} (I : Inv c p W st s) (hr : W.role a = .oth) (ho : s.heap.get? a = some o) (hL : a ≠ p.env.locals) (hC : ∀ y, p.env.cells.lookup y ≠ some a) :
    Inv c p (W.set a (.frz o)) st s :=
  ⟨I.hr.newFrz hr ho, I.fr.mono (Le.set hr) ((Wd.set_other (Ne.symm hL)).trans I.fr.roleL) fun y b hm => (Wd.set_other (show b ≠ a from fun q => hC y (q ▸ hm))).trans (I.fr.roleC y b hm).1⟩

/-- a new frozen object -/
theorem Inv.pushFrz {c : Cx} {p : Pl} {W : Wd} {st : AS} {s : Shared} (I : Inv c p W st s) (o : Obj) (tk : Nat) (hf : o.isFreed = false := by rfl) :
    Inv c p (W.set s.heap.objs.size (.frz o)) st { s with heap := s.heap.push o, toks := tk } ∧ Ext p.Own W s (W.set s.heap.objs.size (.frz o)) { s with heap := s.heap.push o, toks := tk } := by
  have hr := I.hr.oth_of_ge (Nat.le_refl s.heap.objs.size)
  have I' : Inv c p W st { s with heap := s.heap.push o, toks := tk } := I.keeps (fun _ _ e => Heap.get?_push_of_some _ e)
  refine ⟨I'.newFrz hr (Heap.get?_push_size _ hf) (Nat.ne_of_gt I.fr.localsLt) (fun y hm => Nat.lt_irrefl _ (I.fr.cellLt hm)), Le.set hr, fun a o' e => ⟨o', Heap.get?_push_of_some _ e⟩, fun a o' ha e => ?_, fun a o' _ _ e => Heap.get?_push_of_some _ e, rfl, rfl⟩
  rw [Wd.set_other (Nat.ne_of_lt (Heap.lt_size ha))]; exact e

/-- new lists and tuples that never change -/
theorem Ok.newList {c : Cx} {p : Pl} {W0 : Wd} {vs : List Value} {xs : List AV} (h : VRs W0 vs xs) : Ok c p W0 (newList vs) VR (fun st => if xs.length ≤ 100000 then some (.lst xs, st) else .none) := by
  intro W st s hle I b st' e Q E hQ
  split at e
  · rename_i hsz
    cases e
    have hl := h.length
    refine wpAny_newObj_type ?_ (by show vs.toArray.size ≤ sizeLine; rw [List.size_toArray, sizeLine_eq]; omega)
    obtain ⟨I', x⟩ := I.pushFrz (listOf vs.toArray 0) s.toks
    exact hQ _ _ _ x I' (.lst (n := 0) Wd.set_self ((h.mono hle).mono x.le))
  · cases e
theorem Ok.newTuple {c : Cx} {p : Pl} {W0 : Wd} {vs : List Value} {xs : List AV} (h : VRs W0 vs xs) : Ok c p W0 (newTuple vs) VR (fun st => if xs.length ≤ 100000 then some (.tup xs, st) else .none) := by
  intro W st s hle I b st' e Q E hQ
  split at e
  · rename_i hsz
    cases e
    have hl := h.length
    refine wpAny_newObj_type ?_ (by show vs.toArray.size ≤ sizeLine; rw [List.size_toArray, sizeLine_eq]; omega)
    obtain ⟨I', x⟩ := I.pushFrz (tupOf vs.toArray 0) s.toks
    exact hQ _ _ _ x I' (.tup (n := 0) Wd.set_self rfl rfl ((h.mono hle).mono x.le))
  · cases e

end Mine

namespace Mine

abbrev Cm (α : Type) := AS → Option (α × AS)

/-! what of the top the laws lean on -/
structure Gd (c : Cx) : Prop where
  inK : c.K.In c.h0
  g : c.h0.Ns mainGlobals c.mg
  b : c.h0.Ns builtinsNs c.mb
  nolimit : c.h0.NoLimit

/-- a name of the module's, or a built-in one -/
def Cx.Glob (c : Cx) (x : Str) (v : Value) : Prop := c.mg x = some v ∨ (c.mg x = .none ∧ c.mb x = some v)

section
variable {c : Cx} {n : Nat} {sx : Sx}

def var (i : Nat) : Cm AV := fun st =>
  match st.loc[i]? with
  | some .unb => .none
  | some v => some (v, st)
  | .none => .none

theorem var_some {i : Nat} {st st' : AS} {v : AV} (h : var i st = some (v, st')) : st.loc[i]? = some v ∧ v ≠ .unb ∧ st' = st := by
  unfold var at h
  split at h
  · cases h
  · rename_i w q hw; cases h; exact ⟨hw, q, rfl⟩
  · cases h

theorem ImplE.name {x : Str} {pos : Pos} {i : Nat} (hi : sx.vars[i]? = some x) (hd : (x == ("__debug__" : Str)) = false) : ImplE c n sx (.Name x pos) (var i) := by
  intro p hp _ W0 W st s hle I v st' e Q E hQ
  subst hp
  obtain ⟨e1, e2, rfl⟩ := var_some e
  have hk : p.env.scope.kind = .function := by rw [I.fr.scope]; exact I.fr.kind
  refine wpAny_Name ?_ hd
  rcases I.fr.kinds x (List.mem_of_getElem? hi) with hl | hl
  · obtain ⟨ml, hns, hml⟩ := I.fr.ns
    obtain ⟨val, hv, r⟩ := hml i x v hi e1 e2 hl
    exact wpAny_loadName_local hk hl hns hv (hQ W val s (Ext.refl ..) I r)
  · obtain ⟨val, a, hc, hcell, r⟩ := I.fr.cl i x v hi e1 e2 hl
    exact wpAny_loadName_cell hk hl hc hcell (hQ W val s (Ext.refl ..) I r)

theorem load_glob (G : Gd c) {p : Pl} {W : Wd} {st : AS} {s : Shared} (I : Inv c p W st s) {x : Str} {pos : Pos} {v : Value} (hx : p.sx.sc.names.lookup x = some .globalImplicit) (hg : c.Glob x v) (hd : (x == ("__debug__" : Str)) = false)
    {Q : Value → Shared → Prop} {E : Value → Shared → Prop} (h : Q v s) : wpAny (model c.prog c.w) p.A (eval (.Name x pos) p.env) Q E s := by
  have hk : p.env.scope.kind = .function := by rw [I.fr.scope]; exact I.fr.kind
  have hx' : p.env.kindOf x = some .globalImplicit := by unfold Env.kindOf; rw [I.fr.scope]; exact hx
  have g1 : s.heap.Ns p.env.globals c.mg := by rw [I.fr.globals]; exact G.g.keeps I.hr.keep
  have g2 : s.heap.Ns p.env.builtins c.mb := by rw [I.fr.builtins]; exact G.b.keeps I.hr.keep
  refine Calls.Name_function_global hk hx' ?_ hd
  rcases hg with hg | ⟨hg, hb⟩
  · exact Calls.loadGlobal_global g1 hg h
  · exact Calls.loadGlobal_builtin g1 hg g2 hb h

theorem ImplE.glob (G : Gd c) {x : Str} {pos : Pos} {v : Value} (hx : sx.sc.names.lookup x = some .globalImplicit) (hg : c.Glob x v) (hh : handedIn v = true) (hd : (x == ("__debug__" : Str)) = false) : ImplE c n sx (.Name x pos) (pu (.val v)) := by
  intro p hp _ W0 W st s hle I b st' e Q E hQ
  subst hp
  cases e
  exact load_glob G I hx hg hd (hQ W v s (Ext.refl ..) I (.val v hh))

theorem ImplE.cnone {k : Nat} {pos : Pos} : ImplE c n sx (.Constant .none k pos) (pu .none) := by
  intro p _ _ W0 W st s hle I b st' e Q E hQ; cases e
  exact wpAny_Constant_none (hQ W _ s (Ext.refl ..) I .none)
theorem ImplE.cbool {b : Bool} {k : Nat} {pos : Pos} : ImplE c n sx (.Constant (.bool b) k pos) (pu (.bool b)) := by
  intro p _ _ W0 W st s hle I b st' e Q E hQ; cases e
  exact wpAny_Constant_bool (hQ W _ s (Ext.refl ..) I (.bool _))
theorem ImplE.cint {i : Int} {k : Nat} {pos : Pos} : ImplE c n sx (.Constant (.int i) k pos) (pu (.int i)) := by
  intro p _ _ W0 W st s hle I b st' e Q E hQ; cases e
  exact wpAny_Constant_int (hQ W _ _ ((Ext.refl ..).toks _) (I.toks _) (.int _ _))
theorem ImplE.cstr {x : Str} {k : Nat} {pos : Pos} : ImplE c n sx (.Constant (.str x) k pos) (pu (.str x)) := by
  intro p _ _ W0 W st s hle I b st' e Q E hQ; cases e
  exact wpAny_Constant_str (hQ W _ _ ((Ext.refl ..).toks _) (I.toks _) (.str _ _))

/-! rows of expressions -/
def ImplEs (c : Cx) (n : Nat) (sx : Sx) (es : List Expr) (f : Cm (List AV)) : Prop := ∀ p : Pl, p.sx = sx → Room n p.A → ∀ W0 pos, Ok c p W0 (spliced (backTo pos (starEach es p.env))) VRs f

def plainX : Expr → Bool
  | .Starred .. => false
  | _ => true
theorem star_plain {e : Expr} {rest : List Expr} {env : Env} (h : plainX e = true) : starEach (e :: rest) env = (false, eval e env) :: starEach rest env := by
  cases e <;> first | rfl | cases h

theorem ImplEs.nil : ImplEs c n sx [] (pu []) := by
  intro p _ _ W0 pos W st s hle I b st' e Q E hQ; cases e
  exact wpAny_items_nil (hQ W _ s (Ext.refl ..) I .nil)

def consM (f : Cm AV) (g : Cm (List AV)) : Cm (List AV) := bd f fun x => bd g fun xs => pu (x :: xs)

theorem ImplEs.cons {e : Expr} {es : List Expr} {f : Cm AV} {g : Cm (List AV)} (h1 : ImplE c n sx e f) (h2 : ImplEs c n sx es g) (hp : plainX e = true := by rfl) : ImplEs c n sx (e :: es) (consM f g) := by
  intro p hsx hr W0 pos W st s hle I b st' e Q E hQ
  obtain ⟨x, st1, e1, e2⟩ := bd_some e
  obtain ⟨xs, st2, e3, e4⟩ := bd_some e2
  cases e4
  refine wpAny_items_cons (h1 p hsx hr W W st s (Le.refl _) I x st1 e1 _ E fun W1 v s1 x1 I1 r1 => ?_) (star_plain hp)
  refine h2 p hsx hr W1 pos W1 st1 s1 (Le.refl _) I1 xs st' e3 _ E fun W2 vs s2 x2 I2 r2 => ?_
  exact hQ W2 _ s2 (x1.trans x2) I2 (.cons (r1.mono x2.le) r2)

/-- displays that are never changed -/
def lstM (xs : List AV) : Cm AV := fun st => if xs.length ≤ 100000 then some (.lst xs, st) else .none
def tupM (xs : List AV) : Cm AV := fun st => if xs.length ≤ 100000 then some (.tup xs, st) else .none

theorem ImplE.list {es : List Expr} {pos : Pos} {f : Cm (List AV)} (h : ImplEs c n sx es f) : ImplE c n sx (.List es pos) (bd f lstM) := by
  intro p hsx hr W0 W st s hle I b st' e Q E hQ
  obtain ⟨xs, st1, e1, e2⟩ := bd_some e
  refine List_ (h p hsx hr W pos W st s (Le.refl _) I xs st1 e1 _ E fun W1 vs s1 x1 I1 r1 => ?_)
  exact Ok.newList r1 W1 st1 s1 (Le.refl _) I1 b st' e2 Q E fun W2 v s2 x2 I2 r2 => hQ W2 v s2 (x1.trans x2) I2 r2
theorem ImplE.tuple {es : List Expr} {k : Nat} {pos : Pos} {f : Cm (List AV)} (h : ImplEs c n sx es f) : ImplE c n sx (.Tuple es k pos) (bd f tupM) := by
  intro p hsx hr W0 W st s hle I b st' e Q E hQ
  obtain ⟨xs, st1, e1, e2⟩ := bd_some e
  refine Tuple_ (h p hsx hr W pos W st s (Le.refl _) I xs st1 e1 _ E fun W1 vs s1 x1 I1 r1 => ?_)
  exact Ok.newTuple r1 W1 st1 s1 (Le.refl _) I1 b st' e2 Q E fun W2 v s2 x2 I2 r2 => hQ W2 v s2 (x1.trans x2) I2 r2

/-! operators -/
def OkBin (c : Cx) (n : Nat) (op : Operator) (g : AV → AV → Cm AV) : Prop := ∀ p : Pl, Room n p.A → ∀ W0 a b x y, VR W0 a x → VR W0 b y → Ok c p W0 (binaryOp op a b) VR (g x y)
def OkCmp (c : Cx) (n : Nat) (op : CmpOp) (g : AV → AV → Cm Bool) : Prop := ∀ p : Pl, Room n p.A → ∀ W0 a b x y, VR W0 a x → VR W0 b y → Ok c p W0 (compareOp op a b) (fun _ v b => v = .bool b) (g x y)

def bin2 (f g : Cm AV) (h : AV → AV → Cm AV) : Cm AV := bd f fun x => bd g fun y => h x y
def cmp2 (f g : Cm AV) (h : AV → AV → Cm Bool) : Cm Bool := bd f fun x => bd g fun y => h x y

theorem ImplE.bin {l r : Expr} {op : Operator} {pos : Pos} {f g : Cm AV} {h : AV → AV → Cm AV} (h1 : ImplE c n sx l f) (h2 : ImplE c n sx r g) (h3 : OkBin c n op h) : ImplE c n sx (.BinOp l op r pos) (bin2 f g h) := by
  intro p hsx hr W0 W st s hle I b st' e Q E hQ
  obtain ⟨x, st1, e1, e2⟩ := bd_some e
  obtain ⟨y, st2, e3, e4⟩ := bd_some e2
  refine wpAny_BinOp (h1 p hsx hr W W st s (Le.refl _) I x st1 e1 _ E fun W1 a s1 x1 I1 r1 => ?_)
  refine h2 p hsx hr W1 W1 st1 s1 (Le.refl _) I1 y st2 e3 _ E fun W2 vb s2 x2 I2 r2 => ?_
  exact h3 p hr W2 a vb x y (r1.mono x2.le) r2 W2 st2 s2 (Le.refl _) I2 b st' e4 Q E fun W3 v s3 x3 I3 r3 => hQ W3 v s3 ((x1.trans x2).trans x3) I3 r3

def boolV (f : Cm Bool) : Cm AV := bd f fun b => pu (.bool b)

theorem ImplE.cmp {l r : Expr} {op : CmpOp} {pos : Pos} {f g : Cm AV} {h : AV → AV → Cm Bool} (h1 : ImplE c n sx l f) (h2 : ImplE c n sx r g) (h3 : OkCmp c n op h) (hm : behindInMarks op r = false := by rfl) :
    ImplE c n sx (.Compare l [op] [r] pos) (boolV (cmp2 f g h)) := by
  intro p hsx hr W0 W st s hle I b st' e Q E hQ
  obtain ⟨bb, st0, e0, e00⟩ := bd_some e
  cases e00
  obtain ⟨x, st1, e1, e2⟩ := bd_some e0
  obtain ⟨y, st2, e3, e4⟩ := bd_some e2
  refine wpAny_Compare1 (h1 p hsx hr W W st s (Le.refl _) I x st1 e1 _ E fun W1 a s1 x1 I1 r1 => ?_) hm
  refine h2 p hsx hr W1 W1 st1 s1 (Le.refl _) I1 y st2 e3 _ E fun W2 vb s2 x2 I2 r2 => ?_
  exact h3 p hr W2 a vb x y (r1.mono x2.le) r2 W2 st2 s2 (Le.refl _) I2 bb st' e4 Q E fun W3 v s3 x3 I3 r3 => hQ W3 v s3 ((x1.trans x2).trans x3) I3 (r3 ▸ .bool bb)

/-! tests -/
def ImplT (c : Cx) (n : Nat) (sx : Sx) (e : Expr) (f : Cm Bool) : Prop := ∀ p : Pl, p.sx = sx → Room n p.A → ∀ W0, Ok c p W0 (isTrue e p.env (eval e p.env)) (fun _ a b => a = b) f

theorem ImplT.cmp {l r : Expr} {op : CmpOp} {pos : Pos} {f g : Cm AV} {h : AV → AV → Cm Bool} (h1 : ImplE c n sx l f) (h2 : ImplE c n sx r g) (h3 : OkCmp c n op h) (hm : behindInMarks op r = false := by rfl) :
    ImplT c n sx (.Compare l [op] [r] pos) (cmp2 f g h) := by
  intro p hsx hr W0 W st s hle I b st' e Q E hQ
  obtain ⟨x, st1, e1, e2⟩ := bd_some e
  obtain ⟨y, st2, e3, e4⟩ := bd_some e2
  refine wpAny_isTrue_Compare1 (h1 p hsx hr W W st s (Le.refl _) I x st1 e1 _ E fun W1 a s1 x1 I1 r1 => ?_) hm
  refine h2 p hsx hr W1 W1 st1 s1 (Le.refl _) I1 y st2 e3 _ E fun W2 vb s2 x2 I2 r2 => ?_
  refine h3 p hr W2 a vb x y (r1.mono x2.le) r2 W2 st2 s2 (Le.refl _) I2 b st' e4 _ E fun W3 v s3 x3 I3 r3 => ?_
  subst r3
  exact wpAny_truthy_bool (hQ W3 b s3 ((x1.trans x2).trans x3) I3 rfl)

/-- the truth of a bool or of None -/
def truthM : AV → Cm Bool
  | .bool b => pu b
  | .none => pu false
  | _ => no
theorem truth_ok {p : Pl} {W0 : Wd} {v : Value} {x : AV} (h : VR W0 v x) : Ok c p W0 (truthy v) (fun _ a b => a = b) (truthM x) := by
  intro W st s hle I b st' e Q E hQ
  cases h with
  | bool b' => cases e; exact wpAny_truthy_bool (hQ W _ s (Ext.refl ..) I rfl)
  | none => cases e; exact truthy_none (hQ W _ s (Ext.refl ..) I rfl)
  | _ => cases e

/-- expressions whose truth is the truth of their value -/
def plainT : Expr → Bool
  | .UnaryOp .. | .BoolOp .. | .IfExp .. | .Compare .. => false
  | _ => true
theorem isTrue_is {e : Expr} {env : Env} {t : Sem Value} (h : plainT e = true) : isTrue e env t = (do let v ← t; standAt e.pos; holding [v] (truthy v)) := by
  cases e <;> first | rfl | cases h
theorem ImplT.value {e : Expr} {f : Cm AV} (h : ImplE c n sx e f) (hp : plainT e = true := by rfl) : ImplT c n sx e (bd f truthM) := by
  intro p hsx hr W0 W st s hle I b st' e Q E hQ
  obtain ⟨x, st1, e1, e2⟩ := bd_some e
  refine wpAny_isTrue_value (h p hsx hr W W st s (Le.refl _) I x st1 e1 _ E fun W1 a s1 x1 I1 r1 => ?_) (isTrue_is hp)
  exact truth_ok r1 W1 st1 s1 (Le.refl _) I1 b st' e2 Q E fun W2 v s2 x2 I2 r2 => hQ W2 v s2 (x1.trans x2) I2 r2

def notM (f : Cm Bool) : Cm Bool := bd f fun b => pu (!b)
theorem ImplT.not {e : Expr} {pos : Pos} {f : Cm Bool} (h : ImplT c n sx e f) : ImplT c n sx (.UnaryOp .Not e pos) (notM f) := by
  intro p hsx hr W0 W st s hle I b st' e Q E hQ
  obtain ⟨x, st1, e1, e2⟩ := bd_some e
  cases e2
  refine wpAny_isTrue_Not (h p hsx hr W W st s (Le.refl _) I x st' e1 _ E fun W1 a s1 x1 I1 r1 => ?_)
  exact hQ W1 _ s1 x1 I1 (by rw [r1])

def ImplTs (c : Cx) (n : Nat) (sx : Sx) (op : BoolOp) (es : List Expr) (f : Cm Bool) : Prop := ∀ p : Pl, p.sx = sx → Room n p.A → ∀ W0, Ok c p W0 (allTrue op es p.env) (fun _ a b => a = b) f
def andM (f g : Cm Bool) : Cm Bool := bd f fun b => if b then g else pu false
def orM (f g : Cm Bool) : Cm Bool := bd f fun b => if b then pu true else g
theorem ImplTs.andNil : ImplTs c n sx .And [] (pu true) := by
  intro p _ _ W0 W st s hle I b st' e Q E hQ; cases e
  exact wpAny_allTrue_And_nil (hQ W _ s (Ext.refl ..) I rfl)
theorem ImplTs.orNil : ImplTs c n sx .Or [] (pu false) := by
  intro p _ _ W0 W st s hle I b st' e Q E hQ; cases e
  exact wpAny_allTrue_Or_nil (hQ W _ s (Ext.refl ..) I rfl)
theorem ImplTs.and {e : Expr} {es : List Expr} {f g : Cm Bool} (h1 : ImplT c n sx e f) (h2 : ImplTs c n sx .And es g) : ImplTs c n sx .And (e :: es) (andM f g) := by
  intro p hsx hr W0 W st s hle I b st' e Q E hQ
  obtain ⟨x, st1, e1, e2⟩ := bd_some e
  refine wpAny_allTrue_And_cons (h1 p hsx hr W W st s (Le.refl _) I x st1 e1 _ E fun W1 a s1 x1 I1 r1 => ?_)
  subst r1
  cases a with
  | true => exact h2 p hsx hr W1 W1 st1 s1 (Le.refl _) I1 b st' e2 Q E fun W2 v s2 x2 I2 r2 => hQ W2 v s2 (x1.trans x2) I2 r2
  | false => cases e2; exact hQ W1 _ s1 x1 I1 rfl
theorem ImplTs.or {e : Expr} {es : List Expr} {f g : Cm Bool} (h1 : ImplT c n sx e f) (h2 : ImplTs c n sx .Or es g) : ImplTs c n sx .Or (e :: es) (orM f g) := by
  intro p hsx hr W0 W st s hle I b st' e Q E hQ
  obtain ⟨x, st1, e1, e2⟩ := bd_some e
  refine wpAny_allTrue_Or_cons (h1 p hsx hr W W st s (Le.refl _) I x st1 e1 _ E fun W1 a s1 x1 I1 r1 => ?_)
  subst r1
  cases a with
  | false => exact h2 p hsx hr W1 W1 st1 s1 (Le.refl _) I1 b st' e2 Q E fun W2 v s2 x2 I2 r2 => hQ W2 v s2 (x1.trans x2) I2 r2
  | true => cases e2; exact hQ W1 _ s1 x1 I1 rfl
theorem ImplT.bool {op : BoolOp} {es : List Expr} {pos : Pos} {f : Cm Bool} (h : ImplTs c n sx op es f) : ImplT c n sx (.BoolOp op es pos) f :=
  fun p hsx hr W0 => (h p hsx hr W0).of fun _ _ _ k => wpAny_isTrue_BoolOp k

/-! and, or, not as values: bools alone -/
def asBool : AV → Cm Bool
  | .bool b => pu b
  | _ => no
def ImplBs (c : Cx) (n : Nat) (sx : Sx) (op : BoolOp) (es : List Expr) (f : Cm AV) : Prop := ∀ p : Pl, p.sx = sx → Room n p.A → ∀ W0 pos, Ok c p W0 (boolOp pos op (evalEach es p.env)) VR f
def andV (f g : Cm AV) : Cm AV := bd f fun x => bd (asBool x) fun b => if b then g else pu x
def orV (f g : Cm AV) : Cm AV := bd f fun x => bd (asBool x) fun b => if b then pu x else g
theorem ImplBs.one {op : BoolOp} {e : Expr} {f : Cm AV} (h : ImplE c n sx e f) : ImplBs c n sx op [e] f := fun p hsx hr W0 _ => h p hsx hr W0
theorem ImplBs.and {e e' : Expr} {es : List Expr} {f g : Cm AV} (h1 : ImplE c n sx e f) (h2 : ImplBs c n sx .And (e' :: es) g) : ImplBs c n sx .And (e :: e' :: es) (andV f g) := by
  intro p hsx hr W0 pos W st s hle I b st' e Q E hQ
  obtain ⟨x, st1, e1, e2⟩ := bd_some e
  obtain ⟨bb, st2, e3, e4⟩ := bd_some e2
  show wpAny _ _ (do
    let v ← eval _ p.env
    standAt pos
    let t ← holding [v] (truthy v)
    match BoolOp.And, t with
    | .And, false | .Or, true => pure v
    | _, _ => boolOp pos .And (evalEach (e' :: es) p.env)) Q E s
  refine wpAny_bind (h1 p hsx hr W W st s (Le.refl _) I x st1 e1 _ E fun W1 a s1 x1 I1 r1 => ?_)
  refine wpAny_bind (wpAny_standAt (wpAny_bind (wpAny_holding ?_)))
  cases r1 with
  | bool b' =>
    cases e3
    refine wpAny_truthy_bool ?_
    cases bb with
    | true => exact h2 p hsx hr W1 pos W1 st1 s1 (Le.refl _) I1 b st' e4 Q E fun W2 v s2 x2 I2 r2 => hQ W2 v s2 (x1.trans x2) I2 r2
    | false => cases e4; exact wpAny_pure (hQ W1 _ s1 x1 I1 (.bool false))
  | _ => cases e3
theorem ImplBs.or {e e' : Expr} {es : List Expr} {f g : Cm AV} (h1 : ImplE c n sx e f) (h2 : ImplBs c n sx .Or (e' :: es) g) : ImplBs c n sx .Or (e :: e' :: es) (orV f g) := by
  intro p hsx hr W0 pos W st s hle I b st' e Q E hQ
  obtain ⟨x, st1, e1, e2⟩ := bd_some e
  obtain ⟨bb, st2, e3, e4⟩ := bd_some e2
  show wpAny _ _ (do
    let v ← eval _ p.env
    standAt pos
    let t ← holding [v] (truthy v)
    match BoolOp.Or, t with
    | .And, false | .Or, true => pure v
    | _, _ => boolOp pos .Or (evalEach (e' :: es) p.env)) Q E s
  refine wpAny_bind (h1 p hsx hr W W st s (Le.refl _) I x st1 e1 _ E fun W1 a s1 x1 I1 r1 => ?_)
  refine wpAny_bind (wpAny_standAt (wpAny_bind (wpAny_holding ?_)))
  cases r1 with
  | bool b' =>
    cases e3
    refine wpAny_truthy_bool ?_
    cases bb with
    | false => exact h2 p hsx hr W1 pos W1 st1 s1 (Le.refl _) I1 b st' e4 Q E fun W2 v s2 x2 I2 r2 => hQ W2 v s2 (x1.trans x2) I2 r2
    | true => cases e4; exact wpAny_pure (hQ W1 _ s1 x1 I1 (.bool true))
  | _ => cases e3
theorem ImplE.boolop {op : BoolOp} {es : List Expr} {pos : Pos} {f : Cm AV} (h : ImplBs c n sx op es f) : ImplE c n sx (.BoolOp op es pos) f := fun p hsx hr W0 => h p hsx hr W0 pos

def iteM {α : Type} (t : Cm Bool) (f g : Cm α) : Cm α := bd t fun b => if b then f else g
theorem ImplE.ifexp {t a b : Expr} {pos : Pos} {ft : Cm Bool} {fa fb : Cm AV} (h0 : ImplT c n sx t ft) (h1 : ImplE c n sx a fa) (h2 : ImplE c n sx b fb) : ImplE c n sx (.IfExp t a b pos) (iteM ft fa fb) := by
  intro p hsx hr W0 W st s hle I b st' e Q E hQ
  obtain ⟨x, st1, e1, e2⟩ := bd_some e
  refine wpAny_IfExp (h0 p hsx hr W W st s (Le.refl _) I x st1 e1 _ E fun W1 a s1 x1 I1 r1 => ?_)
  subst r1
  cases a with
  | true => exact h1 p hsx hr W1 W1 st1 s1 (Le.refl _) I1 b st' e2 Q E fun W2 v s2 x2 I2 r2 => hQ W2 v s2 (x1.trans x2) I2 r2
  | false => exact h2 p hsx hr W1 W1 st1 s1 (Le.refl _) I1 b st' e2 Q E fun W2 v s2 x2 I2 r2 => hQ W2 v s2 (x1.trans x2) I2 r2

theorem ImplE.sub {e : Expr} {f f' : Cm AV} (h : ImplE c n sx e f) (k : ∀ st b st', f' st = some (b, st') → f st = some (b, st')) : ImplE c n sx e f' := fun p hsx hr W0 => (h p hsx hr W0).sub k
end
end Mine

namespace Mine

section
variable {c : Cx} {n : Nat} {sx : Sx}

/-! stores into the frame -/
def setV (i : Nat) (v : AV) : Cm Unit := fun st => some ((), { st with loc := st.loc.set i v })

theorem HR.loc {W : Wd} {st : AS} {h : Heap} (H : HR c W st h) (l : List AV) : HR c W { st with loc := l } h :=
  ⟨H.keep, H.mutA, H.lt, H.frz, H.ni, H.nl, H.iaR, H.insA, H.lstA, H.nodup⟩

theorem nodup_get : ∀ {l : List Str}, l.Nodup → ∀ {i j : Nat} {x : Str}, l[i]? = some x → l[j]? = some x → i = j
  | [], _, i, j, x, hi, _ => by simp at hi
  | y :: r, h, i, j, x, hi, hj => by
    obtain ⟨h1, h2⟩ := List.nodup_cons.mp h
    cases i with
    | zero =>
      cases j with
      | zero => rfl
      | succ j => simp at hi hj; subst hi; exact absurd (List.mem_of_getElem? hj) h1
    | succ i =>
      cases j with
      | zero => simp at hi hj; subst hj; exact absurd (List.mem_of_getElem? hi) h1
      | succ j => simp at hi hj; exact congrArg _ (nodup_get h2 hi hj)

theorem store_ok {p : Pl} {W0 : Wd} {i : Nat} {x : Str} {val : Value} {v : AV} (hi : p.sx.vars[i]? = some x) (hw : x ∈ p.sx.wr) (hv : VR W0 val v) : Ok c p W0 (storeName p.env x val) (fun _ _ _ => True) (setV i v) := by
  intro W st s hle I b st' e Q E hQ
  cases e
  have F := I.fr
  have hk : p.env.scope.kind = .function := by rw [F.scope]; exact F.kind
  have hv' := hv.mono hle
  obtain ⟨ml, hns, hml⟩ := F.ns
  rcases F.kinds x (List.mem_of_getElem? hi) with hl | hl
  · refine wpAny_storeName_local hl hns (fun h' hns' hsb => ?_) (by rw [hk]; rfl)
    have keepR : ∀ b o, b ≠ p.env.locals → s.heap.get? b = some o → h'.get? b = some o := fun b o hb e => hsb.extBut b o hb e
    refine hQ W () _ ⟨Le.refl W, fun a o e => ?_, fun _ _ _ e => e, fun a o _ hno e => keepR a o (fun q => hno (.inl q)) e, rfl, rfl⟩ ⟨?_, ?_⟩ trivial
    · rcases Classical.em (a = p.env.locals) with q | q
      · subst q; obtain ⟨o', _, _, ho', _⟩ := hns'; exact ⟨o', ho'⟩
      · exact ⟨o, keepR a o q e⟩
    · refine (I.hr.loc _).grow fun b o hb e => keepR b o (fun q => ?_) e
      subst q
      rcases hb with ⟨o', hb⟩ | hb
      · rw [F.lo] at hb; cases hb
      · exact hb F.roleL
    · refine ⟨⟨_, hns', fun j y u h1 h2 h3 h4 => ?_⟩, fun j y u h1 h2 h3 h4 => ?_, fun y a hm => ?_, F.hasCell, F.kinds, F.apart, F.wcIn, F.roleL, F.roleC, F.lo, F.scope, F.kind, F.globals, F.builtins, F.nodup⟩
      · simp only [List.getElem?_set] at h2
        by_cases hij : i = j
        · subst hij
          rw [hi] at h1; cases h1
          rw [if_pos rfl] at h2
          split at h2
          · cases h2; exact ⟨val, if_pos rfl, hv'⟩
          · cases h2
        · rw [if_neg hij] at h2
          obtain ⟨vl, e1, r⟩ := hml j y u h1 h2 h3 h4
          have : y ≠ x := fun q => hij (nodup_get F.nodup hi (q ▸ h1))
          exact ⟨vl, by simp only [this, if_false]; exact e1, r⟩
      · simp only [List.getElem?_set] at h2
        have hij : i ≠ j := fun q => by subst q; rw [hi] at h1; cases h1; rw [hl] at h4; cases h4
        rw [if_neg hij] at h2
        obtain ⟨vl, a, e1, q, r⟩ := F.cl j y u h1 h2 h3 h4
        exact ⟨vl, a, e1, q.sameBut hsb (F.roleC y a e1).2.1, r⟩
      · obtain ⟨u, q⟩ := F.cells y a hm
        exact ⟨u, q.sameBut hsb (F.roleC y a hm).2.1⟩
  · obtain ⟨a, hc, hwc⟩ := F.hasCell x hw hl
    obtain ⟨v0, hcell⟩ := F.cells x a hc
    have hra := F.roleC x a hc
    refine wpAny_storeName_cell hk hl hc hcell fun h' hcell' hsb => ?_
    have keepR : ∀ b o, b ≠ a → s.heap.get? b = some o → h'.get? b = some o := fun b o hb e => hsb.extBut b o hb e
    refine hQ W () _ ⟨Le.refl W, fun b o e => ?_, fun _ _ _ e => e, fun b o _ hno e => keepR b o (fun q => hno (.inr (q ▸ hwc))) e, rfl, rfl⟩ ⟨?_, ?_⟩ trivial
    · rcases Classical.em (b = a) with q | q
      · subst q; obtain ⟨o', ho', _⟩ := hcell'; exact ⟨o', ho'⟩
      · exact ⟨o, keepR b o q e⟩
    · refine (I.hr.loc _).grow fun b o hb e => keepR b o (fun q => ?_) e
      subst q
      rcases hb with ⟨o', hb⟩ | hb
      · rw [hra.2.2] at hb; cases hb
      · exact hb hra.1
    · refine ⟨⟨ml, hns.sameBut hsb (Ne.symm hra.2.1), fun j y u h1 h2 h3 h4 => ?_⟩, fun j y u h1 h2 h3 h4 => ?_, fun y b hm => ?_, F.hasCell, F.kinds, F.apart, F.wcIn, F.roleL, F.roleC, F.lo, F.scope, F.kind, F.globals, F.builtins, F.nodup⟩
      · simp only [List.getElem?_set] at h2
        have hij : i ≠ j := fun q => by subst q; rw [hi] at h1; cases h1; rw [hl] at h4; cases h4
        rw [if_neg hij] at h2
        exact hml j y u h1 h2 h3 h4
      · simp only [List.getElem?_set] at h2
        by_cases hij : i = j
        · subst hij
          rw [hi] at h1; cases h1
          rw [if_pos rfl] at h2
          split at h2
          · cases h2; exact ⟨val, a, hc, hcell', hv'⟩
          · cases h2
        · rw [if_neg hij] at h2
          obtain ⟨vl, b, e1, q, r⟩ := F.cl j y u h1 h2 h3 h4
          have : y ≠ x := fun q => hij (nodup_get F.nodup hi (q ▸ h1))
          have hba : b ≠ a := fun q => this (name_of_addr F.apart (mem_of_lookup e1) (q ▸ mem_of_lookup hc))
          exact ⟨vl, b, e1, q.sameBut hsb hba, r⟩
      · rcases Classical.em (b = a) with q | q
        · subst q; exact ⟨_, hcell'⟩
        · obtain ⟨u, h⟩ := F.cells y b hm
          exact ⟨u, h.sameBut hsb q⟩

/-! targets -/
def ImplA (c : Cx) (n : Nat) (sx : Sx) (t : Expr) (f : AV → Cm Unit) : Prop := ∀ p : Pl, p.sx = sx → Room n p.A → ∀ W0 val x, VR W0 val x → Ok c p W0 (assign t p.env val) (fun _ _ _ => True) (f x)

theorem ImplA.name {x : Str} {pos : Pos} {i : Nat} (hi : sx.vars[i]? = some x) (hw : x ∈ sx.wr) : ImplA c n sx (.Name x pos) (setV i) := by
  intro p hsx hr W0 val v hv
  subst hsx
  exact (store_ok hi hw hv).of fun s Q E h => wpAny_assign_Name h

def ImplAs (c : Cx) (n : Nat) (sx : Sx) (ts : List Expr) (f : List AV → Cm Unit) : Prop :=
  ∀ p : Pl, p.sx = sx → Room n p.A → (assignEach ts p.env).length = ts.length ∧ (assignEach ts p.env).findIdx? (·.1) = .none ∧
    ∀ W0 vals xs, VRs W0 vals xs → xs.length = ts.length → Ok c p W0 (assignInOrder ((assignEach ts p.env).map (·.2)) vals) (fun _ _ _ => True) (f xs)
def nilA : List AV → Cm Unit := fun xs => match xs with | [] => pu () | _ => no
def consA (f : AV → Cm Unit) (g : List AV → Cm Unit) : List AV → Cm Unit := fun xs => match xs with
  | x :: r => bd (f x) fun _ => g r
  | [] => no
theorem ImplAs.nil : ImplAs c n sx [] nilA := by
  intro p hsx hr
  refine ⟨rfl, rfl, fun W0 vals xs h hl W st s hle I b st' e Q E hQ => ?_⟩
  cases h with
  | nil => cases e; exact wpAny_pure (hQ W _ s (Ext.refl ..) I trivial)
  | cons => cases hl
theorem assign_plain {t : Expr} {ts : List Expr} {env : Env} (h : plainX t = true) : assignEach (t :: ts) env = (false, assign t env) :: assignEach ts env := by
  cases t <;> first | rfl | cases h
theorem ImplAs.cons {t : Expr} {ts : List Expr} {f : AV → Cm Unit} {g : List AV → Cm Unit} (h1 : ImplA c n sx t f) (h2 : ImplAs c n sx ts g) (hp : plainX t = true := by rfl) : ImplAs c n sx (t :: ts) (consA f g) := by
  intro p hsx hr
  obtain ⟨a1, a2, a3⟩ := h2 p hsx hr
  refine ⟨by rw [assign_plain hp, List.length_cons, List.length_cons, a1], by rw [assign_plain hp, List.findIdx?_cons]; simp [a2], fun W0 vals xs h hl W st s hle I b st' e Q E hQ => ?_⟩
  cases h with
  | nil => cases hl
  | cons hv hvs =>
    obtain ⟨u, st1, e1, e2⟩ := bd_some e
    rw [assign_plain hp]
    show wpAny _ _ (do holding _ (assign t p.env _); assignInOrder ((assignEach ts p.env).map (·.2)) _) Q E s
    refine wpAny_bind (wpAny_holding (h1 p hsx hr W _ _ (hv.mono hle) W st s (Le.refl _) I u st1 e1 _ E fun W1 _ s1 x1 I1 _ => ?_))
    exact a3 W1 _ _ ((hvs.mono hle).mono x1.le) (by simpa using hl) W1 st1 s1 (Le.refl _) I1 b st' e2 Q E fun W2 v s2 x2 I2 r2 => hQ W2 v s2 (x1.trans x2) I2 r2

/-- what may be unpacked: a tuple, or a list that never changes -/
def unpackM (k : Nat) (g : List AV → Cm Unit) : AV → Cm Unit := fun x => match x with
  | .tup xs => if xs.length = k then g xs else no
  | _ => no

theorem HR.isTuple {W : Wd} {st : AS} {h : Heap} (H : HR c W st h) {a : Addr} {o : Obj} {vs : List Value} {k : Nat} (e : W.role a = .frz o) (e1 : o.cls = .type "tuple") (e2 : o.data = .seq vs.toArray k) : h.IsTuple a vs.toArray := ⟨o, H.frz a _ e, e1, _, e2⟩
theorem HR.isList {W : Wd} {st : AS} {h : Heap} (H : HR c W st h) {a : Addr} {vs : List Value} {k : Nat} (e : W.role a = .frz (listOf vs.toArray k)) : h.IsList a vs.toArray := ⟨_, H.frz a _ e, rfl, _, rfl⟩

theorem Inv.unext {p : Pl} {W : Wd} {st : AS} {s : Shared} (I : Inv c p W st s) {h' : Heap} (x : Heap.ExtBut s.heap.objs.size s.heap h') :
    Inv c p W st { s with heap := h' } ∧ Ext p.Own W s W { s with heap := h' } := by
  have k : ∀ b o, s.heap.get? b = some o → h'.get? b = some o := fun b o e => x b o (Nat.ne_of_lt (Heap.lt_size e)) e
  exact ⟨I.keeps (s' := { s with heap := h' }) k, Ext.keeps (s' := { s with heap := h' }) _ _ k rfl rfl⟩

theorem ImplA.tuple {ts : List Expr} {k : Nat} {pos : Pos} {g : List AV → Cm Unit} (h : ImplAs c n sx ts g) : ImplA c n sx (.Tuple ts k pos) (unpackM ts.length g) := by
  intro p hsx hr W0 val x hv W st s hle I b st' e Q E hQ
  obtain ⟨a1, a2, a3⟩ := h p hsx hr
  cases hv.mono hle with
  | tup hrole c1 c2 hvs =>
    simp only [unpackM] at e
    split at e
    · rename_i hl
      refine wpAny_assign_Tuple hr.1 (I.hr.isTuple hrole c1 c2) (by rw [a1, List.size_toArray, hvs.length, hl]) a2 fun h' hx => ?_
      obtain ⟨I', x'⟩ := I.unext hx
      exact a3 W _ _ hvs hl W st _ (Le.refl _) I' b st' e Q E fun W2 v s2 x2 I2 r2 => hQ W2 v s2 (x'.trans x2) I2 r2
    · cases e
  | _ => cases e

/-! statements -/
inductive AF where
  | next
  | ret (v : AV)
inductive FlowR (W : Wd) : Flow → AF → Prop
  | next : FlowR W .next .next
  | ret {v : Value} {x : AV} : VR W v x → FlowR W (.ret v) (.ret x)
def ImplS1 (c : Cx) (n : Nat) (sx : Sx) (t : Stmt) (f : Cm AF) : Prop := ∀ p : Pl, p.sx = sx → Room n p.A → ∀ W0, Ok c p W0 (exec t p.env) FlowR f
def ImplS (c : Cx) (n : Nat) (sx : Sx) (ts : List Stmt) (f : Cm AF) : Prop := ∀ p : Pl, p.sx = sx → Room n p.A → ∀ W0, Ok c p W0 (execs ts p.env) FlowR f

def thenM (f g : Cm AF) : Cm AF := bd f fun r => match r with
  | .next => g
  | .ret v => pu (.ret v)
theorem ImplS.nil : ImplS c n sx [] (pu .next) := by
  intro p _ _ W0 W st s hle I b st' e Q E hQ; cases e
  exact wpAny_execs_nil (hQ W _ s (Ext.refl ..) I .next)
theorem ImplS.cons {t : Stmt} {ts : List Stmt} {f g : Cm AF} (h1 : ImplS1 c n sx t f) (h2 : ImplS c n sx ts g) : ImplS c n sx (t :: ts) (thenM f g) := by
  intro p hsx hr W0 W st s hle I b st' e Q E hQ
  obtain ⟨r, st1, e1, e2⟩ := bd_some e
  refine wpAny_execs_cons (h1 p hsx hr W W st s (Le.refl _) I r st1 e1 _ E fun W1 fl s1 x1 I1 r1 => ?_)
  cases r1 with
  | next => exact h2 p hsx hr W1 W1 st1 s1 (Le.refl _) I1 b st' e2 Q E fun W2 v s2 x2 I2 r2 => hQ W2 v s2 (x1.trans x2) I2 r2
  | ret hv => cases e2; exact hQ W1 _ s1 x1 I1 (.ret hv)

def envS (sc : Scope) : Env := { scope := sc, locals := 0, globals := 0, cells := [] }

def asgM (f : Cm AV) (g : AV → Cm Unit) : Cm AF := bd f fun x => bd (g x) fun _ => pu .next

theorem swaps1_static {t : Option Expr} {value : Expr} {line : Nat} {env : Env} {sc : Scope} (h : env.scope = sc) : swapsWith value t line env = swapsWith value t line (envS sc) := by
  obtain ⟨scope, locals, globals, cells, qual, func, code, frame, builtins⟩ := env
  dsimp only at h; subst h; rfl
theorem swaps_static {t : List Expr} {value : Expr} {line : Nat} {env : Env} {sc : Scope} (h : env.scope = sc) : swapsWithSole t value line env = swapsWithSole t value line (envS sc) := by
  cases t with
  | nil => rfl
  | cons a r =>
    cases r with
    | nil => exact swaps1_static h
    | cons => rfl
theorem stores_static {t : List Expr} {value : Expr} {env : Env} {sc : Scope} (h : env.scope = sc) : swappedStores t value env = swappedStores t value (envS sc) := by
  obtain ⟨scope, locals, globals, cells, qual, func, code, frame, builtins⟩ := env
  dsimp only at h; subst h; rfl

theorem assignAll_one {t : Expr} {env : Env} {v : Value} (h : plainX t = true) : assignAll v ((assignEach [t] env).map (·.2)) = assign t env v := by
  rw [assign_plain h]; rfl

theorem ImplS1.assign {t value : Expr} {pos : Pos} {f : Cm AV} {g : AV → Cm Unit} (h1 : ImplE c n sx value f) (h2 : ImplA c n sx t g)
    (hs : swapsWithSole [t] value pos.line (envS sx.sc) = pure false := by rfl) (hw : swappedStores [t] value (envS sx.sc) = pure .none := by rfl) (hp : plainX t = true := by rfl) :
    ImplS1 c n sx (.Assign [t] value pos) (asgM f g) := by
  intro p hsx hr W0 W st s hle I b st' e Q E hQ
  obtain ⟨x, st1, e1, e2⟩ := bd_some e
  obtain ⟨u, st2, e3, e4⟩ := bd_some e2
  cases e4
  have hsc : p.env.scope = sx.sc := by rw [I.fr.scope, hsx]
  refine wpAny_Assign_stores (h1 p hsx hr W W st s (Le.refl _) I x st1 e1 _ E fun W1 v s1 x1 I1 r1 => ?_) (by rw [swaps_static hsc]; exact hs) (by rw [stores_static hsc]; exact hw)
  rw [assignAll_one hp]
  exact h2 p hsx hr W1 v x r1 W1 st1 s1 (Le.refl _) I1 u st' e3 _ E fun W2 _ s2 x2 I2 _ => hQ W2 _ s2 (x1.trans x2) I2 .next

/-- two or three local names at once, stored from behind -/
def ImplN (c : Cx) (sx : Sx) (xs : List Str) (f : List AV → Cm Unit) : Prop :=
  ∀ p : Pl, p.sx = sx → ∀ W0 vals ys, VRs W0 vals ys → ys.length = xs.length → Ok c p W0 (assignInOrder (xs.map fun x => bindName p.env x) vals) (fun _ _ _ => True) (f ys)
theorem ImplN.nil : ImplN c sx [] nilA := by
  intro p hsx W0 vals ys h hl W st s hle I b st' e Q E hQ
  cases h with
  | nil => cases e; exact wpAny_pure (hQ W _ s (Ext.refl ..) I trivial)
  | cons => cases hl
theorem ImplN.cons {x : Str} {xs : List Str} {i : Nat} {g : List AV → Cm Unit} (hi : sx.vars[i]? = some x) (hw : x ∈ sx.wr) (h2 : ImplN c sx xs g) : ImplN c sx (x :: xs) (consA (setV i) g) := by
  intro p hsx W0 vals ys h hl W st s hle I b st' e Q E hQ
  cases h with
  | nil => cases hl
  | cons hv hvs =>
    obtain ⟨u, st1, e1, e2⟩ := bd_some (show bd (setV i _) (fun _ => g _) st = some (b, st') from e)
    show wpAny _ _ (do holding _ (bindName p.env x _); assignInOrder (xs.map fun x => bindName p.env x) _) Q E s
    subst hsx
    refine wpAny_bind (wpAny_holding (wpAny_bindName (store_ok hi hw (hv.mono hle) W st s (Le.refl _) I u st1 e1 _ E fun W1 _ s1 x1 I1 _ => ?_)))
    exact h2 p rfl W1 _ _ ((hvs.mono hle).mono x1.le) (by simpa using hl) W1 st1 s1 (Le.refl _) I1 b st' e2 Q E fun W2 v s2 x2 I2 r2 => hQ W2 v s2 (x1.trans x2) I2 r2

def swapM (k : Nat) (g : List AV → Cm Unit) : AV → Cm Unit := fun x => match x with
  | .tup xs => if xs.length = k then g xs.reverse else no
  | _ => no

theorem ImplS1.swapped {ts : List Expr} {k : Nat} {tpos : Pos} {value : Expr} {pos : Pos} {names : List Str} {f : Cm AV} {g : List AV → Cm Unit} (h1 : ImplE c n sx value f)
    (hw : swappedStores [.Tuple ts k tpos] value (envS sx.sc) = pure (some names)) (h2 : ImplN c sx names.reverse g)
    (hs : swapsWithSole [.Tuple ts k tpos] value pos.line (envS sx.sc) = pure false := by rfl) :
    ImplS1 c n sx (.Assign [.Tuple ts k tpos] value pos) (asgM f (swapM names.length g)) := by
  intro p hsx hr W0 W st s hle I b st' e Q E hQ
  obtain ⟨x, st1, e1, e2⟩ := bd_some e
  obtain ⟨u, st2, e3, e4⟩ := bd_some e2
  cases e4
  have hsc : p.env.scope = sx.sc := by rw [I.fr.scope, hsx]
  refine Assign_Tuple_swapped (names := names) (h1 p hsx hr W W st s (Le.refl _) I x st1 e1 _ E fun W1 v s1 x1 I1 r1 => ?_) (by rw [swaps_static hsc]; exact hs) (by rw [stores_static hsc]; exact hw)
  cases r1 with
  | @tup a o vs k xs hrole c1 c2 hvs =>
    simp only [swapM] at e3
    split at e3
    · rename_i hl
      have hsz : names.length = vs.toArray.size := by rw [List.size_toArray, hvs.length, hl]
      rw [hsz]
      refine wpAny_unpackItems_tuple hr.1 (I1.hr.isTuple hrole c1 c2) fun h' hx => ?_
      obtain ⟨I', x'⟩ := I1.unext hx
      exact h2 p hsx W1 _ _ hvs.reverse (by simp [hl]) W1 st1 _ (Le.refl _) I' u st' e3 _ E fun W2 _ s2 x2 I2 _ => hQ W2 _ s2 ((x1.trans x').trans x2) I2 .next
    · cases e3
  | _ => cases e3

/-- a call whose value is dropped: it must be None -/
def dropM (f : Cm AV) : Cm AF := bd f fun x => match x with
  | .none => pu .next
  | _ => no
theorem swapsE_static {value : Expr} {line : Nat} {env : Env} {sc : Scope} (h : env.scope = sc) : swapsWith value .none line env = swapsWith value .none line (envS sc) := by
  obtain ⟨scope, locals, globals, cells, qual, func, code, frame, builtins⟩ := env
  dsimp only at h; subst h; rfl
theorem ImplS1.expr {e : Expr} {pos : Pos} {f : Cm AV} (h : ImplE c n sx e f) (hi : interactive (envS sx.sc) = false := by rfl) (hs : swapsWith e .none pos.line (envS sx.sc) = pure false := by rfl) : ImplS1 c n sx (.Expr e pos) (dropM f) := by
  intro p hsx hr W0 W st s hle I b st' e Q E hQ
  obtain ⟨x, st1, e1, e2⟩ := bd_some e
  have hsc : p.env.scope = sx.sc := by rw [I.fr.scope, hsx]
  have hi' : interactive p.env = false := by rw [← hi]; unfold interactive; rw [hsc]; rfl
  refine wpAny_Expr (h p hsx hr W W st s (Le.refl _) I x st1 e1 _ E fun W1 v s1 x1 I1 r1 => ?_) hi' (by rw [swapsE_static hsc]; exact hs)
  cases r1 with
  | none => cases e2; exact hQ W1 _ s1 x1 I1 .next
  | _ => cases e2

theorem ImplS1.ite {t : Expr} {a b : List Stmt} {pos : Pos} {ft : Cm Bool} {fa fb : Cm AF} (h0 : ImplT c n sx t ft) (h1 : ImplS c n sx a fa) (h2 : ImplS c n sx b fb) : ImplS1 c n sx (.If t a b pos) (iteM ft fa fb) := by
  intro p hsx hr W0 W st s hle I b st' e Q E hQ
  obtain ⟨x, st1, e1, e2⟩ := bd_some e
  refine wpAny_If (h0 p hsx hr W W st s (Le.refl _) I x st1 e1 _ E fun W1 a s1 x1 I1 r1 => ?_)
  subst r1
  cases a with
  | true => exact h1 p hsx hr W1 W1 st1 s1 (Le.refl _) I1 b st' e2 Q E fun W2 v s2 x2 I2 r2 => hQ W2 v s2 (x1.trans x2) I2 r2
  | false => exact h2 p hsx hr W1 W1 st1 s1 (Le.refl _) I1 b st' e2 Q E fun W2 v s2 x2 I2 r2 => hQ W2 v s2 (x1.trans x2) I2 r2

def retM (f : Cm AV) : Cm AF := bd f fun x => pu (.ret x)
theorem ImplS1.ret {e : Expr} {pos : Pos} {f : Cm AV} (h : ImplE c n sx e f) : ImplS1 c n sx (.Return (some e) pos) (retM f) := by
  intro p hsx hr W0 W st s hle I b st' e Q E hQ
  obtain ⟨x, st1, e1, e2⟩ := bd_some e
  cases e2
  exact wpAny_Return_some (h p hsx hr W W st s (Le.refl _) I x st' e1 _ E fun W1 v s1 x1 I1 r1 => hQ W1 _ s1 x1 I1 (.ret r1))

theorem ImplS.sub {ts : List Stmt} {f f' : Cm AF} (h : ImplS c n sx ts f) (k : ∀ st b st', f' st = some (b, st') → f st = some (b, st')) : ImplS c n sx ts f' := fun p hsx hr W0 => (h p hsx hr W0).sub k
theorem ImplS1.sub {t : Stmt} {f f' : Cm AF} (h : ImplS1 c n sx t f) (k : ∀ st b st', f' st = some (b, st') → f st = some (b, st')) : ImplS1 c n sx t f' := fun p hsx hr W0 => (h p hsx hr W0).sub k
end
end Mine

namespace Mine

section
variable {c : Cx} {n : Nat} {sx : Sx}

/-! lists that nobody will change any more -/
def frz0 (seg : List (Nat × List AV)) : AV → AV
  | .lob k => (match lookL k seg with | some xs => .lst xs | .none => .lob k)
  | v => v
def frzV (seg : List (Nat × List AV)) : AV → AV
  | .tup vs => .tup (vs.map (frz0 seg))
  | v => frz0 seg v

def Wd.freeze (W : Wd) (seg : List (Nat × List AV)) (h : Heap) : Wd :=
  { W with role := fun a => match W.role a with
      | .lob k => if (lookL k seg).isSome then (match h.get? a with | some o => .frz o | .none => .oth) else .lob k
      | r => r }

theorem freeze_role {W : Wd} {seg : List (Nat × List AV)} {h : Heap} {a : Addr} (hn : ∀ k, W.role a ≠ .lob k) : (W.freeze seg h).role a = W.role a := by
  unfold Wd.freeze
  dsimp only
  split
  · rename_i k e; exact absurd e (hn k)
  · rfl
theorem freeze_lob {W : Wd} {seg : List (Nat × List AV)} {h : Heap} {a : Addr} {k : Nat} (e : W.role a = .lob k) : (W.freeze seg h).role a = if (lookL k seg).isSome then (match h.get? a with | some o => .frz o | .none => .oth) else .lob k := by
  unfold Wd.freeze
  dsimp only
  rw [e]
theorem Le.freeze (W : Wd) (seg : List (Nat × List AV)) (h : Heap) : Le W (W.freeze seg h) :=
  ⟨Nat.le_refl _, Nat.le_refl _, fun _ _ => rfl, fun _ _ => rfl, fun _ _ => rfl, fun a o e => by rw [freeze_role (by intro k q; rw [e] at q; cases q)]; exact e⟩

theorem lookL_mem {k : Nat} {xs : List AV} : ∀ {seg : List (Nat × List AV)}, lookL k seg = some xs → (k, xs) ∈ seg
  | [], h => by cases h
  | (j, ys) :: r, h => by
    simp only [lookL] at h
    split at h
    · rename_i q; subst q; cases h; exact List.mem_cons_self
    · exact List.mem_cons_of_mem _ (lookL_mem h)

theorem HR.freezeSeg {W : Wd} {st : AS} {h : Heap} {seg : List (Nat × List AV)} {r : LH} (H : HR c W st h) (e : st.lst = seg :: r) : HR c (W.freeze seg h) { st with lst := r } h := by
  have L := Le.freeze W seg h
  refine ⟨H.keep, fun a ha => ?_, fun a => ?_, fun a o ha => ?_, H.ni, H.nl, fun k hk => ?_, fun k i e' => ?_, fun g hg p hp => ?_, ?_⟩
  · rcases Classical.em (∃ k, W.role a = .lob k) with ⟨k, q⟩ | q
    · refine H.mutA a ?_; unfold Wd.Mut; rw [q]; trivial
    · refine H.mutA a ?_; unfold Wd.Mut at ha ⊢; rwa [freeze_role (fun k hk => q ⟨k, hk⟩)] at ha
  · rcases Classical.em (∃ k, W.role a = .lob k) with ⟨k, q⟩ | q
    · rcases H.lt a with z | z
      · rw [q] at z; cases z
      · exact .inr z
    · rw [freeze_role (fun k hk => q ⟨k, hk⟩)]; exact H.lt a
  · rcases Classical.em (∃ k, W.role a = .lob k) with ⟨k, q⟩ | q
    · rw [freeze_lob q] at ha
      split at ha
      · split at ha
        · rename_i o' ho; cases ha; exact ho
        · cases ha
      · cases ha
    · rw [freeze_role (fun k hk => q ⟨k, hk⟩)] at ha; exact H.frz a o ha
  · obtain ⟨r1, r2⟩ := H.iaR k hk
    exact ⟨(freeze_role (a := W.ia k) (by intro j q; rw [r1] at q; cases q)).trans r1, (freeze_role (a := W.da k) (by intro j q; rw [r2] at q; cases q)).trans r2⟩
  · obtain ⟨es, m, e1, e2, r3⟩ := H.insA k i e'
    exact ⟨es, m, e1, e2, r3.mono L⟩
  · obtain ⟨h1, h2, vs, m, h3, h4⟩ := H.lstA g (by rw [e]; exact List.mem_cons_of_mem _ hg) p hp
    refine ⟨h1, ?_, vs, m, h3, h4.mono L⟩
    show (W.freeze seg h).role (W.la p.1) = _
    rw [freeze_lob h2, if_neg]
    intro q
    obtain ⟨ys, hy⟩ := Option.isSome_iff_exists.mp q
    have nd := H.nodup
    rw [e, List.flatten_cons, List.map_append] at nd
    exact (List.nodup_append.mp nd).2.2 p.1 (List.mem_map.mpr ⟨_, lookL_mem hy, rfl⟩) p.1 (List.mem_map.mpr ⟨p, List.mem_flatten.mpr ⟨g, hg, hp⟩, rfl⟩) rfl
  · have nd := H.nodup
    rw [e, List.flatten_cons, List.map_append] at nd
    exact (List.nodup_append.mp nd).2.1

theorem frz0_ok {W : Wd} {st : AS} {h : Heap} {seg : List (Nat × List AV)} {r : LH} (H : HR c W st h) (e : st.lst = seg :: r) {val : Value} {v : AV} (hv : VR W val v) : VR (W.freeze seg h) val (frz0 seg v) := by
  have L := Le.freeze W seg h
  cases hv with
  | lob k hk =>
    simp only [frz0]
    split
    · rename_i xs hx
      obtain ⟨h1, h2, vs, m, h3, h4⟩ := H.lstA seg (by rw [e]; exact List.mem_cons_self) _ (lookL_mem hx)
      refine .lst (n := m) (vs := vs) ?_ (h4.mono L)
      dsimp only at h2 h3
      rw [freeze_lob h2, hx, h3]; rfl
    · exact (VR.lob k hk).mono L
  | none => exact .none
  | bool b => exact .bool b
  | int i t => exact .int i t
  | str x t => exact .str x t
  | bytes x t => exact .bytes x t
  | val _ hu => exact .val _ hu
  | ins k hk => exact (VR.ins k hk).mono L
  | lst h1 h2 => exact (VR.lst h1 h2).mono L
  | tup h1 h2 h3 h4 => exact (VR.tup h1 h2 h3 h4).mono L
  | lsb h1 h2 h3 h4 => exact (VR.lsb h1 h2 h3 h4).mono L
theorem frzV_ok {W : Wd} {st : AS} {h : Heap} {seg : List (Nat × List AV)} {r : LH} (H : HR c W st h) (e : st.lst = seg :: r) {val : Value} {v : AV} (hv : VR W val v) : VR (W.freeze seg h) val (frzV seg v) := by
  cases hv with
  | @tup _ _ vs m xs h1 h3 h4 h2 =>
    refine .tup ((Le.freeze W seg h).frz _ _ h1) h3 h4 ?_
    clear h1 h3 h4
    induction vs generalizing xs with
    | nil => cases h2; exact .nil
    | cons u us ih => cases h2 with | cons a b => exact .cons (frz0_ok H e a) (ih b)
  | none => exact frz0_ok H e .none
  | bool b => exact frz0_ok H e (.bool b)
  | int i t => exact frz0_ok H e (.int i t)
  | str x t => exact frz0_ok H e (.str x t)
  | bytes x t => exact frz0_ok H e (.bytes x t)
  | val _ hu => exact frz0_ok H e (.val _ hu)
  | ins k hk => exact frz0_ok H e (.ins k hk)
  | lob k hk => exact frz0_ok H e (.lob k hk)
  | lst h1 h2 => exact frz0_ok H e (.lst h1 h2)
  | lsb h1 h2 h3 h4 => exact frz0_ok H e (.lsb h1 h2 h3 h4)

/-! calls of the text's own functions -/
def ImplF (c : Cx) (n : Nat) (fa : Addr) (F : List AV → Cm AV) : Prop :=
  ∀ (A : Around) (W : Wd) (st : AS) (s : Shared), Room n A → HR c W st s.heap → ∀ vs xs, VRs W vs xs → ∀ v st', F xs st = some (v, st') →
    ∀ R : Result → Shared → Prop, (∀ W' val s', Ext (fun _ => False) W s W' s' → HR c W' st' s'.heap → VR W' val v → R (.ok (.ret val)) s') → codeAny (model c.prog c.w) A (.call (.ref fa) ⟨vs, []⟩) R s

def endFn (loc : List AV) (v : AV) : Cm AV := fun st => match st.lst with
  | seg :: r => some (frzV seg v, { st with lst := r, loc := loc })
  | [] => .none
def runFn (k m : Nat) (g : Cm AF) (xs : List AV) : Cm AV := fun st =>
  if xs.length = k then
    match g { st with loc := xs ++ List.replicate m .unb, lst := [] :: st.lst } with
    | some (.ret v, st1) => endFn st.loc v st1
    | some (.next, st1) => endFn st.loc .none st1
    | .none => .none
  else .none

theorem ImplF.sub {fa : Addr} {F F' : List AV → Cm AV} (h : ImplF c n fa F) (k : ∀ xs st b st', F' xs st = some (b, st') → F xs st = some (b, st')) : ImplF c n fa F' :=
  fun A W st s hr H vs xs hv v st' e R hR => h A W st s hr H vs xs hv v st' (k _ _ _ _ e) R hR

theorem bindL_skip {kindOf : Str → Option NameKind} {x : Str} : ∀ {b : List (Str × Value)} {m : Str → Option Value}, (∀ y ∈ b, y.1 ≠ x) → bindL kindOf b m x = m x
  | [], _, _ => rfl
  | (y, v) :: r, m, h => by
    unfold bindL
    rw [bindL_skip (fun z hz => h z (List.mem_cons_of_mem _ hz))]
    split
    · exact if_neg (Ne.symm (h (y, v) List.mem_cons_self))
    · rfl
theorem bindL_get {kindOf : Str → Option NameKind} {x : Str} (hk : kindOf x = some .local) : ∀ {names : List Str} {vals : List Value} {m : Str → Option Value} {i : Nat} {v : Value}, names.Nodup → names[i]? = some x → vals[i]? = some v → bindL kindOf (names.zip vals) m x = some v
  | [], _, _, i, _, _, h, _ => by simp at h
  | _ :: _, [], _, i, _, _, _, h => by simp at h
  | y :: ys, u :: us, m, i, v, hn, hx, hv => by
    obtain ⟨h1, h2⟩ := List.nodup_cons.mp hn
    rw [List.zip_cons_cons]
    unfold bindL
    cases i with
    | zero =>
      simp at hx hv
      subst hx hv
      rw [bindL_skip (fun z hz q => h1 (by have := (List.of_mem_zip (show (z.1, z.2) ∈ _ from hz)).1; rwa [q] at this)), if_pos hk]
      exact if_pos rfl
    | succ i =>
      simp at hx hv
      exact bindL_get hk h2 hx hv
theorem bindC_skip {kindOf : Str → Option NameKind} {x : Str} : ∀ {b : List (Str × Value)} {m : Str → Option Value}, (∀ y ∈ b, y.1 ≠ x) → bindC kindOf b m x = m x
  | [], _, _ => rfl
  | (y, v) :: r, m, h => by
    unfold bindC
    rw [bindC_skip (fun z hz => h z (List.mem_cons_of_mem _ hz))]
    split
    · rfl
    · exact if_neg (Ne.symm (h (y, v) List.mem_cons_self))
theorem bindC_get {kindOf : Str → Option NameKind} {x : Str} (hk : kindOf x ≠ some .local) : ∀ {names : List Str} {vals : List Value} {m : Str → Option Value} {i : Nat} {v : Value}, names.Nodup → names[i]? = some x → vals[i]? = some v → bindC kindOf (names.zip vals) m x = some v
  | [], _, _, i, _, _, h, _ => by simp at h
  | _ :: _, [], _, i, _, _, _, h => by simp at h
  | y :: ys, u :: us, m, i, v, hn, hx, hv => by
    obtain ⟨h1, h2⟩ := List.nodup_cons.mp hn
    rw [List.zip_cons_cons]
    unfold bindC
    cases i with
    | zero =>
      simp at hx hv
      subst hx hv
      rw [bindC_skip (fun z hz q => h1 (by have := (List.of_mem_zip (show (z.1, z.2) ∈ _ from hz)).1; rwa [q] at this)), if_neg hk]
      exact if_pos rfl
    | succ i =>
      simp at hx hv
      exact bindC_get hk h2 hx hv

theorem mem_filterMap_lookup {cs : List (Str × Addr)} {vars : List Str} {a : Addr} (h : a ∈ vars.filterMap fun x => cs.lookup x) : ∃ x, cs.lookup x = some a := by
  obtain ⟨x, _, e⟩ := List.mem_filterMap.mp h; exact ⟨x, e⟩

/-- what a def of the text is -/
structure FnIs (c : Cx) (fa : Addr) (fd : FuncData) (body : List Stmt) (names others : List Str) : Prop where
  at_ : ∃ oc od osl, c.K.lookup fa = some ⟨oc, od, .func fd, osl⟩
  body : fd.body = .stmts body
  clo : fd.closure = []
  globals : fd.globals = mainGlobals
  builtins : fd.builtins = builtinsNs
  code : codeIn c.K fd.code fd.qualname = true
  co : fd.scope.isCoroutine = false
  gen : fd.scope.isGenerator = false
  kind : fd.scope.kind = .function
  bind : ∀ vals : List Value, vals.length = names.length → bindArgs fd ⟨vals, []⟩ = pure (names.zip vals)
  kinds : ((names ++ others).all fun x => fd.scope.names.lookup x == some .local || fd.scope.names.lookup x == some .cell) = true
  nodup : (names ++ others).Nodup

theorem fn_ok (G : Gd c) {fa : Addr} {fd : FuncData} {body : List Stmt} {names others : List Str} {g : Cm AF} (D : FnIs c fa fd body names others)
    (hS : ImplS c n ⟨fd.scope, names ++ others, names ++ others⟩ body g) : ImplF c (n + 1) fa (runFn names.length others.length g) := by
  intro A W st s hr H vs xs hv v st' e R hR
  obtain ⟨oc, od, osl, hK⟩ := D.at_
  have ho := H.keep _ _ (G.inK _ _ hK)
  unfold runFn at e
  by_cases hlen : xs.length = names.length
  case neg => rw [if_neg hlen] at e; cases e
  rw [if_pos hlen] at e
  have hlv : vs.length = names.length := by rw [hv.length, hlen]
  have hkinds : ∀ x, x ∈ names ++ others → fd.scope.names.lookup x = some .local ∨ fd.scope.names.lookup x = some .cell := fun x hx => by
    have := List.all_eq_true.mp D.kinds x hx
    simpa using this
  have hcell : ∀ x, x ∈ names ++ others → fd.scope.names.lookup x = some .cell → ∀ m, ((cellsFrom m fd.scope.names []).lookup x).isSome = true := fun x _ hx m => cellsFrom_some _ _ _ (.inl hx)
  refine codeAny_call_cells hr.depth ho rfl (G.nolimit.keeps H.keep) (codeRec_of (K := c.K) (fun a o q => H.keep _ _ (G.inK a o q)) D.code) D.body (D.bind vs hlv) D.clo ?_ (fun s1 x1 => ?_) D.co D.gen D.kind
  · intro x hx
    have hm := (List.of_mem_zip (show (x.1, x.2) ∈ names.zip vs from hx)).1
    rcases hkinds x.1 (List.mem_append_left _ hm) with q | q
    · exact .inl q
    · exact .inr ⟨q, hcell _ (List.mem_append_left _ hm) q _⟩
  · -- the new frame
    let env := callEnvC fd s.heap.objs.size fa
    let p : Pl := ⟨A.deeper env, ⟨fd.scope, names ++ others, names ++ others⟩, env, (names ++ others).filterMap fun x => env.cells.lookup x⟩
    have hL : env.locals = s.heap.objs.size := rfl
    have hnL : s.heap.get? s.heap.objs.size = .none := get_none_of_ge (Nat.le_refl _)
    have hnC : ∀ y a, env.cells.lookup y = some a → s.heap.get? a = .none := fun y a q => get_none_of_ge (Nat.le_of_lt (x1.above y a (mem_of_lookup q)))
    obtain ⟨h1, tk1, rfl⟩ := x1.toInCall.same
    have k1 := x1.toInCall.keep
    have I1 : Inv c p W { st with loc := xs ++ List.replicate others.length .unb, lst := [] :: st.lst } { s with heap := h1, toks := tk1 } := by
      refine ⟨⟨fun a o q => k1 _ _ (H.keep a o q), H.mutA, fun a => (H.lt a).imp id fun ⟨o, q⟩ => ⟨o, k1 a o q⟩, fun a o q => k1 _ _ (H.frz a o q), H.ni, H.nl, H.iaR, fun k i q => ?_, fun gg hg pp hp => ?_, ?_⟩, ?_⟩
      · obtain ⟨es, m, e1, e2, r⟩ := H.insA k i q
        exact ⟨es, m, k1 _ _ e1, k1 _ _ e2, r⟩
      · rcases List.mem_cons.mp hg with q | hg
        · subst q; cases hp
        · obtain ⟨q1, q2, us, m, q3, q4⟩ := H.lstA gg hg pp hp
          exact ⟨q1, q2, us, m, k1 _ _ q3, q4⟩
      · show ((([] : List (Nat × List AV)) ++ st.lst.flatten).map (·.1)).Nodup
        exact H.nodup
      · refine ⟨⟨_, x1.toInCall.ns, fun i x u a1 a2 a3 a4 => ?_⟩, fun i x u a1 a2 a3 a4 => ?_, fun y a q => ⟨_, x1.cell y a q⟩, fun x hx hk => ?_, hkinds, x1.apart, fun a ha => mem_filterMap_lookup ha, H.oth_of_none hnL, fun y a q => ⟨H.oth_of_none (hnC y a q), Nat.ne_of_gt (x1.above y a (mem_of_lookup q)), H.base_none (hnC y a q)⟩, H.base_none hnL, rfl, D.kind, D.globals, D.builtins, D.nodup⟩
        · have hi : i < names.length := by
            rcases Nat.lt_or_ge i names.length with q | q
            · exact q
            · exfalso
              rw [List.getElem?_append_right (by omega)] at a2
              rw [List.getElem?_replicate] at a2
              split at a2
              · cases a2; exact a3 rfl
              · cases a2
          rw [List.getElem?_append_left hi] at a1
          rw [List.getElem?_append_left (by omega)] at a2
          obtain ⟨w, b1, b2⟩ := hv.get a2
          exact ⟨w, bindL_get a4 (List.nodup_append.mp D.nodup).1 a1 b1, b2⟩
        · have hi : i < names.length := by
            rcases Nat.lt_or_ge i names.length with q | q
            · exact q
            · exfalso
              rw [List.getElem?_append_right (by omega)] at a2
              rw [List.getElem?_replicate] at a2
              split at a2
              · cases a2; exact a3 rfl
              · cases a2
          rw [List.getElem?_append_left hi] at a1
          rw [List.getElem?_append_left (by omega)] at a2
          obtain ⟨w, b1, b2⟩ := hv.get a2
          obtain ⟨a, q⟩ := Option.isSome_iff_exists.mp (hcell x (List.mem_append_left _ (List.mem_of_getElem? a1)) a4 (s.heap.objs.size + 1))
          have := x1.cell x a q
          rw [bindC_get (by rw [a4]; intro z; cases z) (List.nodup_append.mp D.nodup).1 a1 b1] at this
          exact ⟨w, a, q, this, b2⟩
        · obtain ⟨a, q⟩ := Option.isSome_iff_exists.mp (hcell x hx hk (s.heap.objs.size + 1))
          exact ⟨a, q, List.mem_filterMap.mpr ⟨x, hx, q⟩⟩
    have hown : ∀ a, p.Own a → s.heap.get? a = .none := fun a ha => by
      rcases ha with rfl | ha
      · exact hnL
      · obtain ⟨x, q⟩ := mem_filterMap_lookup ha; exact hnC x a q
    have fin : ∀ (fl : Flow) (u : AV) (st1 : AS), endFn st.loc u st1 = some (v, st') →
        ∀ W1 s2, Ext p.Own W { s with heap := h1, toks := tk1 } W1 s2 → Inv c p W1 st1 s2 → VR W1 (match fl with | .ret w => w | _ => .none) u → R (.ok (.ret (match fl with | .ret w => w | _ => .none))) s2 := by
      intro fl u st1 e' W1 s2 x2 I2 r2
      unfold endFn at e'
      split at e'
      · rename_i seg r hseg
        cases e'
        refine hR (W1.freeze seg s2.heap) _ s2 ⟨x2.le.trans (Le.freeze ..), fun a o q => x2.alive a o (k1 a o q), fun a o q z => ?_, fun a o hm _ q => x2.kept a o hm (fun z => by rw [hown a z] at q; cases q) (k1 a o q), x2.gens, x2.os⟩ ((I2.hr.freezeSeg hseg).loc _) (frzV_ok I2.hr hseg r2)
        have z1 := x2.oth a o (k1 a o q) z
        rw [freeze_role (by intro k zz; rw [z1] at zz; cases zz)]; exact z1
      · cases e'
    have body := hS p rfl (hr.deeper env) W W _ _ (Le.refl _) I1
    refine wpAny_noRaise ?_
    split at e
    · rename_i u st1 hg
      refine body _ _ hg _ _ fun W1 fl s2 x2 I2 r2 => ?_
      cases r2 with
      | ret r2 => exact fin (.ret _) u st1 e W1 s2 x2 I2 r2
    · rename_i st1 hg
      refine body _ _ hg _ _ fun W1 fl s2 x2 I2 r2 => ?_
      cases r2 with
      | next => exact fin .next .none st1 e W1 s2 x2 I2 .none
    · cases e

/-! a call in an expression -/
def OkCall (c : Cx) (n : Nat) (f : Value) (F : List AV → Cm AV) : Prop := ∀ p : Pl, Room n p.A → ∀ W0 vs xs, VRs W0 vs xs → Ok c p W0 (call f vs) VR (F xs)

def callM (F : List AV → Cm AV) (xs : List AV) : Cm AV := fun st => match F xs st with
  | some (v, st') => some (v, { st' with loc := st.loc })
  | .none => .none

theorem ImplF.call {fa : Addr} {F : List AV → Cm AV} (h : ImplF c n fa F) : OkCall c n (.ref fa) (callM F) := by
  intro p hr W0 vs xs hv W st s hle I b st' e Q E hQ
  unfold callM at e
  split at e
  · rename_i v st1 hF
    cases e
    refine wpAny_call (h p.A W st s hr I.hr vs xs (hv.mono hle) _ _ hF _ fun W' val s' x H r => ?_)
    exact hQ W' val s' (x.weaken fun _ q => q.elim) ⟨H.loc _, I.fr.ext x (fun q => q) fun _ _ _ q => q⟩ r
  · cases e

theorem evalArgs_row {M : Model} {A : Around} {E : Value → Shared → Prop} {s : Shared} {f : Value} {env : Env} {pos : Pos} {es : List Expr} {Q : Args → Shared → Prop} (hp : es.all plainX = true)
    (h : wpAny M A (spliced (backTo pos (starEach es env))) (fun vs s' => Q ⟨vs, []⟩ s') E s) : wpAny M A (evalArgs f true (backTo pos (starEach es env)) []) Q E s := by
  cases es with
  | nil =>
    unfold evalArgs
    show wpAny M A (spliced [] >>= _) Q E s
    exact wpAny_bind (wpAny_mono h (fun vs s' h' => wpAny_bind (wpAny_pure (wpAny_holding (wpAny_bind (wpAny_pure (wpAny_bind (wpAny_pure (wpAny_pure h')))))))) fun _ _ x => x)
  | cons e r =>
    have he : plainX e = true := (Bool.and_eq_true_iff.mp (List.all_cons ▸ hp)).1
    rw [star_plain he] at h ⊢
    exact Calls.evalArgs_plain h

theorem any_false {es : List Expr} {env : Env} {pos : Pos} (hp : es.all plainX = true) : (backTo pos (starEach es env)).any (·.1) = false := by
  induction es with
  | nil => rfl
  | cons e r ih =>
    obtain ⟨h1, h2⟩ := Bool.and_eq_true_iff.mp (List.all_cons ▸ hp)
    rw [star_plain h1]
    show (false || (backTo pos (starEach r env)).any (·.1)) = false
    rw [ih h2]; rfl

theorem ImplE.callFn (G : Gd c) {x : Str} {p0 pos : Pos} {es : List Expr} {fa : Addr} {fs : Cm (List AV)} {F : List AV → Cm AV} (hx : sx.sc.names.lookup x = some .globalImplicit) (hg : c.Glob x (.ref fa))
    (hfn : ∃ oc od fd osl, c.K.lookup fa = some ⟨oc, od, .func fd, osl⟩) (h1 : ImplEs c n sx es fs) (h2 : ImplF c n fa F) (hd : (x == ("__debug__" : Str)) = false := by decide) (hp : es.all plainX = true := by rfl) :
    ImplE c n sx (.Call (.Name x p0) es [] pos) (bd fs (callM F)) := by
  intro p hsx hr W0 W st s hle I b st' e Q E hQ
  obtain ⟨xs, st1, e1, e2⟩ := bd_some e
  obtain ⟨oc, od, fd, osl, hK⟩ := hfn
  refine Call_ (load_glob G I (by rw [hsx]; exact hx) hg hd ?_)
  refine Calls.callWith_function (o := ⟨oc, od, .func fd, osl⟩) (fd := fd) (evalArgs_row hp ?_)
  refine h1 p hsx hr W pos W st s (Le.refl _) I xs st1 e1 _ E fun W1 vs s1 x1 I1 r1 => ?_
  refine ⟨⟨I1.hr.keep _ _ (G.inK _ _ hK), rfl⟩, ?_⟩
  exact h2.call p hr W1 vs xs r1 W1 st1 s1 (Le.refl _) I1 b st' e2 Q E fun W2 v s2 x2 I2 r2 => hQ W2 v s2 (x1.trans x2) I2 r2

/-- built-in functions and types by their names -/
theorem ImplE.callB (G : Gd c) {x : Str} {p0 pos : Pos} {es : List Expr} {id : String} {fs : Cm (List AV)} {F : List AV → Cm AV} (hx : sx.sc.names.lookup x = some .globalImplicit) (hg : c.Glob x (.builtin id))
    (h1 : ImplEs c n sx es fs) (h2 : OkCall c n (.builtin id) F) (hd : (x == ("__debug__" : Str)) = false := by decide) (hp : es.all plainX = true := by rfl) :
    ImplE c n sx (.Call (.Name x p0) es [] pos) (bd fs F) := by
  intro p hsx hr W0 W st s hle I b st' e Q E hQ
  obtain ⟨xs, st1, e1, e2⟩ := bd_some e
  refine Call_ (load_glob G I (by rw [hsx]; exact hx) hg hd ?_)
  refine Calls.callWith_builtin (any_false hp) (evalArgs_row hp ?_)
  refine h1 p hsx hr W pos W st s (Le.refl _) I xs st1 e1 _ E fun W1 vs s1 x1 I1 r1 => ?_
  exact h2 p hr W1 vs xs r1 W1 st1 s1 (Le.refl _) I1 b st' e2 Q E fun W2 v s2 x2 I2 r2 => hQ W2 v s2 (x1.trans x2) I2 r2
theorem ImplE.callT (G : Gd c) {x : Str} {p0 pos : Pos} {es : List Expr} {T : String} {fs : Cm (List AV)} {F : List AV → Cm AV} (hx : sx.sc.names.lookup x = some .globalImplicit) (hg : c.Glob x (.type T))
    (h1 : ImplEs c n sx es fs) (h2 : OkCall c n (.type T) F) (hd : (x == ("__debug__" : Str)) = false := by decide) (hp : es.all plainX = true := by rfl) :
    ImplE c n sx (.Call (.Name x p0) es [] pos) (bd fs F) := by
  intro p hsx hr W0 W st s hle I b st' e Q E hQ
  obtain ⟨xs, st1, e1, e2⟩ := bd_some e
  refine Call_ (load_glob G I (by rw [hsx]; exact hx) hg hd ?_)
  refine PyProof.Rows.callWith_type (any_false hp) (evalArgs_row hp ?_)
  refine h1 p hsx hr W pos W st s (Le.refl _) I xs st1 e1 _ E fun W1 vs s1 x1 I1 r1 => ?_
  exact h2 p hr W1 vs xs r1 W1 st1 s1 (Le.refl _) I1 b st' e2 Q E fun W2 v s2 x2 I2 r2 => hQ W2 v s2 (x1.trans x2) I2 r2

end
end Mine

namespace Mine

/-! the class -/
structure Cls (c : Cx) : Prop where
  makes : makesIn c.K c.C = true
  ga : findIn c.K (.ref c.C) "__getattribute__" = some (some (.builtin "object.__getattribute__"))
  gat : findIn c.K (.ref c.C) "__getattr__" = some .none
  sa : findIn c.K (.ref c.C) "__setattr__" = some (some (.builtin "object.__setattr__"))
  plain : plainOver c.K c.C = true
  hasDict : hasDictIn c.K c.C = true
  fields : ∀ f : Fd, findIn c.K (.ref c.C) (fkey f) = some .none
  keep : keepIn c.K (.ref c.C) = true

section
variable {c : Cx} {n : Nat} {sx : Sx}

theorem HR.inK (G : Gd c) {W : Wd} {st : AS} {h : Heap} (H : HR c W st h) : c.K.In h := fun a o e => H.keep a o (G.inK a o e)
theorem HR.instAt {W : Wd} {st : AS} {h : Heap} (H : HR c W st h) {k : Nat} {i : Ins} (e : st.ins[k]? = some i) : ∃ es m, InstAt h (W.ia k) (instObj c.C (W.da k)) c.C (some (dictOf es m)) ∧ FieldsAre W es i := by
  obtain ⟨es, m, e1, e2, r⟩ := H.insA k i e
  exact ⟨es, m, ⟨e1, rfl, rfl, e2⟩, r⟩

/-- a store into an instance's dict, whatever it holds -/
theorem set_raw (C : Cls c) {A : Around} {E : Value → Shared → Prop} {s : Shared} {x d : Addr} {es : List DictEntry} {m : Nat} {name : Str} {v : Value} {Q : Unit → Shared → Prop} (X : c.K.In s.heap)
    (I : InstAt s.heap x (instObj c.C d) c.C (some (dictOf es m))) (hf : findIn c.K (.ref c.C) name = some .none) (hl : (PySem.W.getL name es).isSome = true) (hz : (PySem.W.putL name (PyData.keyHash c.w.params name) (.str name (s.toks + 1)) v es).length ≤ 1000)
    (h : ∀ h', h'.get? d = some (dictOf (PySem.W.putL name (PyData.keyHash c.w.params name) (.str name (s.toks + 1)) v es) (putN name es m)) → Heap.SameBut d s.heap h' → Q () { s with heap := h', toks := s.toks + 2 }) :
    wpAny (model c.prog c.w) A (setAttr (.ref x) name v) Q E s := by
  refine set_plain X I C.sa ?_
  refine osa_open (s := { s with toks := s.toks + 1 }) X I C.plain (r := .none) (by unfold takerIn; rw [hf]; rfl) fun b => ?_
  obtain ⟨cd, hc, hd'⟩ := any_some C.hasDict
  have D : s.heap.get? d = some (dictOf es m) := I.dict
  have D' : (s.heap.update d (Obj.putName name (PyData.keyHash c.w.params name) (.str name (s.toks + 1)) v)).get? d = some (dictOf (PySem.W.putL name (PyData.keyHash c.w.params name) (.str name (s.toks + 1)) v es) (putN name es m)) := by
    rw [← putName_dict]
    exact Heap.get?_update_self _ D (by rw [putName_dict]; rfl)
  refine wpAny_bind (wpAny_pure (wpAny_bind (wpAny_bind (wpAny_loadPart I.at_ (wpAny_bind (looks_clsIn X hc _ _ _ _ (fun _ _ e => e) ?_))))))
  rw [hd']
  refine wpAny_pure (a := some d) (wpAny_bind (wpAny_pure (wpAny_bind ?_)))
  unfold nsSet
  refine wpAny_bind (wpAny_bind (wpAny_askSetting (wpAny_pure (wpAny_bind (wpAny_mkText (wpAny_bind (wpAny_loadPart D ?_)))))))
  dsimp only
  have cc : (!es.toArray.any (·.key.isStr name) && es.toArray.any (·.refKey)) = false := by
    rw [← Array.any_toList, ← Array.any_toList]
    unfold PySem.W.getL at hl
    split at hl
    · rename_i en he
      rw [List.any_eq_true.mpr ⟨en, List.mem_of_find?_eq_some he, List.find?_some he⟩]; rfl
    · split at hl
      · cases hl
      · rename_i z; rw [Bool.not_eq_true] at z; rw [z, Bool.and_false]
  rw [aRefKeyMayBeTheName_at, cc]
  refine wpAny_updatePart D ?_
  refine wpAny_bind (wpAny_lookBehind D' (pastItsLine_dict (by rw [List.size_toArray, sizeLine_eq]; omega)) ?_)
  exact wpAny_pure (h _ D' (Heap.SameBut.update ..))

/-! fields read and stored -/
def attrM (f : Fd) : AV → Cm AV := fun o => match o with
  | .ins k => fun st => (match st.ins[k]? with | some i => some (i.get f, st) | .none => .none)
  | _ => no
def putM (f : Fd) : AV → AV → Cm Unit := fun o v => match o with
  | .ins k => fun st => (match st.ins[k]? with | some i => some ((), { st with ins := st.ins.set k (i.put v f) }) | .none => .none)
  | _ => no

theorem attr_ok (G : Gd c) (C : Cls c) {p : Pl} {W0 : Wd} {f : Fd} {o : Value} {x : AV} (hv : VR W0 o x) : Ok c p W0 (getAttr o (fkey f) true) VR (attrM f x) := by
  intro W st s hle I b st' e Q E hQ
  cases hv.mono hle with
  | ins k hk =>
    simp only [attrM] at e
    split at e
    · rename_i i hi
      cases e
      obtain ⟨es, m, J, r⟩ := I.hr.instAt hi
      obtain ⟨v, hl, rv⟩ := r.get f
      refine get_value (I.hr.inK G) J C.ga (findObj_own C.hasDict (C.fields f) rfl hl) rv.handed ?_
      exact hQ W v _ ((Ext.refl ..).toks _) (I.toks _) rv
    · cases e
  | _ => cases e

theorem HR.dct {W : Wd} {st : AS} {h h' : Heap} {k : Nat} {i : Ins} {es : List DictEntry} {m : Nat} (H : HR c W st h) (hi : ∃ i0, st.ins[k]? = some i0) (hd : h'.get? (W.da k) = some (dictOf es m)) (hs : Heap.SameBut (W.da k) h h') (hf : FieldsAre W es i) :
    HR c W { st with ins := st.ins.set k i } h' := by
  obtain ⟨i0, hi⟩ := hi
  have hk : k < W.ni := by rw [H.ni]; exact (List.getElem?_eq_some_iff.mp hi).1
  obtain ⟨r1, r2⟩ := H.iaR k hk
  have hm : W.Mut (W.da k) := by unfold Wd.Mut; rw [r2]; trivial
  have kp : ∀ a o, a ≠ W.da k → h.get? a = some o → h'.get? a = some o := fun a o ha e => hs.extBut a o ha e
  refine ⟨fun a o e => kp a o (fun q => ?_) (H.keep a o e), H.mutA, fun a => ?_, fun a o e => kp a o (fun q => ?_) (H.frz a o e), ?_, H.nl, H.iaR, fun j y e => ?_, fun g hg q hq => ?_, H.nodup⟩
  · rw [q, H.mutA _ hm] at e; cases e
  · rcases Classical.em (a = W.da k) with q | q
    · subst q; exact .inr ⟨_, hd⟩
    · exact (H.lt a).imp id fun ⟨o, z⟩ => ⟨o, kp a o q z⟩
  · rw [q, r2] at e; cases e
  · show W.ni = (st.ins.set k i).length; rw [List.length_set]; exact H.ni
  · have e' : (st.ins.set k i)[j]? = some y := e
    rw [List.getElem?_set] at e'
    by_cases hkj : k = j
    · subst hkj
      rw [if_pos rfl] at e'
      split at e'
      · cases e'
        obtain ⟨es0, m0, e1, e2, _⟩ := H.insA k i0 hi
        exact ⟨es, m, kp _ _ (fun q => by rw [q, r2] at r1; cases r1) e1, hd, hf⟩
      · cases e'
    · rw [if_neg hkj] at e'
      obtain ⟨es0, m0, e1, e2, r⟩ := H.insA j y e'
      have hj : j < W.ni := by rw [H.ni]; exact (List.getElem?_eq_some_iff.mp e').1
      obtain ⟨s1, s2⟩ := H.iaR j hj
      exact ⟨es0, m0, kp _ _ (fun q => by rw [q, r2] at s1; cases s1) e1, kp _ _ (fun q => by rw [q, r2] at s2; cases s2; exact hkj rfl) e2, r⟩
  · obtain ⟨h1, h2, vs, m0, h3, h4⟩ := H.lstA g hg q hq
    exact ⟨h1, h2, vs, m0, kp _ _ (fun z => by rw [z, r2] at h2; cases h2) h3, h4⟩

/-- one mutable address changes -/
theorem Ext.change {own : Addr → Prop} {W : Wd} {s : Shared} {a : Addr} {h' : Heap} {tk : Nat} (hm : W.Mut a) (hs : Heap.SameBut a s.heap h') (ha : ∃ o, h'.get? a = some o) : Ext own W s W { s with heap := h', toks := tk } :=
  ⟨Le.refl W, fun b o e => by
      rcases Classical.em (b = a) with q | q
      · subst q; exact ha
      · exact ⟨o, hs.extBut b o q e⟩,
    fun _ _ _ e => e, fun b o hb _ e => hs.extBut b o (fun q => hb (q ▸ hm)) e, rfl, rfl⟩
theorem FrV.change {p : Pl} {W : Wd} {loc : List AV} {h h' : Heap} {a : Addr} (F : FrV c p W loc h) (hm : W.Mut a) (hs : Heap.SameBut a h h') : FrV c p W loc h' :=
  F.grow fun b o hb e => hs.extBut b o (fun q => by
    subst q
    rcases hb with hb | ⟨x, hb⟩
    · unfold Wd.Mut at hm; rw [hb, F.roleL] at hm; exact hm
    · unfold Wd.Mut at hm; rw [(F.roleC x b hb).1] at hm; exact hm) e

theorem put_ok (G : Gd c) (C : Cls c) {p : Pl} {W0 : Wd} {f : Fd} {o val : Value} {x v : AV} (ho : VR W0 o x) (hv : VR W0 val v) : Ok c p W0 (setAttr o (fkey f) val) (fun _ _ _ => True) (putM f x v) := by
  intro W st s hle I b st' e Q E hQ
  cases ho.mono hle with
  | ins k hk =>
    simp only [putM] at e
    split at e
    · rename_i i hi
      cases e
      obtain ⟨es, m, J, r⟩ := I.hr.instAt hi
      obtain ⟨v0, hl, _⟩ := r.get f
      have hm : W.Mut (W.da k) := by unfold Wd.Mut; rw [(I.hr.iaR k hk).2]; trivial
      have r' := r.put f (hv.mono hle) (PyData.keyHash c.w.params (fkey f)) (.str (fkey f) (s.toks + 1))
      refine set_raw C (I.hr.inK G) J (C.fields f) (by rw [hl]; rfl) (by rw [r'.len]; decide) fun h' hd hs => ?_
      exact hQ W () _ (Ext.change hm hs ⟨_, hd⟩) ⟨I.hr.dct ⟨i, hi⟩ hd hs r', I.fr.change hm hs⟩ trivial
    · cases e
  | _ => cases e

theorem ImplE.attr (G : Gd c) (C : Cls c) {o : Expr} {pos : Pos} {f : Fd} {g : Cm AV} (h : ImplE c n sx o g) (hb : ∀ env t, attributeBase o (fkey f) env t = t := by intro _ _; rfl) : ImplE c n sx (.Attribute o (fkey f) pos) (bd g (attrM f)) := by
  intro p hsx hr W0 W st s hle I b st' e Q E hQ
  obtain ⟨x, st1, e1, e2⟩ := bd_some e
  refine Attribute_any_ (h p hsx hr W W st s (Le.refl _) I x st1 e1 _ E fun W1 v s1 x1 I1 r1 => ?_) (by rw [arm_eval_Attribute, hb])
  exact attr_ok G C r1 W1 st1 s1 (Le.refl _) I1 b st' e2 Q E fun W2 v s2 x2 I2 r2 => hQ W2 v s2 (x1.trans x2) I2 r2

theorem ImplA.attr (G : Gd c) (C : Cls c) {o : Expr} {pos : Pos} {f : Fd} {g : Cm AV} (h : ImplE c n sx o g) : ImplA c n sx (.Attribute o (fkey f) pos) (fun v => bd g fun x => putM f x v) := by
  intro p hsx hr W0 val v hv W st s hle I b st' e Q E hQ
  obtain ⟨x, st1, e1, e2⟩ := bd_some e
  show wpAny _ _ (do
    let ov ← holding [val] (eval o p.env)
    standAt pos.atName
    holding [val, ov] (setAttr ov (fkey f) val)
    release [val, ov] []) Q E s
  refine wpAny_bind (wpAny_holding (h p hsx hr W W st s (Le.refl _) I x st1 e1 _ E fun W1 ov s1 x1 I1 r1 => ?_))
  refine wpAny_bind (wpAny_standAt (wpAny_bind (wpAny_holding ?_)))
  refine put_ok G C r1 ((hv.mono hle).mono x1.le) W1 st1 s1 (Le.refl _) I1 b st' e2 _ E fun W2 u s2 x2 I2 r2 => ?_
  exact wpAny_release (hQ W2 _ s2 (x1.trans x2) I2 trivial)

/-! getters and setters as functions -/
def getF (f : Fd) : List AV → Cm AV := fun xs => match xs with
  | [o] => attrM f o
  | _ => no
def setF (f : Fd) : List AV → Cm AV := fun xs => match xs with
  | [o, v] => bd (putM f o v) fun _ => pu .none
  | _ => no

theorem attrM_spec {f : Fd} {o v : AV} {st st' : AS} (h : attrM f o st = some (v, st')) : ∃ k i, o = .ins k ∧ st.ins[k]? = some i ∧ v = i.get f ∧ st' = st := by
  cases o <;> simp only [attrM, no] at h <;> try cases h
  split at h
  · rename_i i hi; cases h; exact ⟨_, i, rfl, hi, rfl, rfl⟩
  · cases h
theorem putM_spec {f : Fd} {o v : AV} {st st' : AS} {u : Unit} (h : putM f o v st = some (u, st')) : ∃ k i, o = .ins k ∧ st.ins[k]? = some i ∧ st' = { st with ins := st.ins.set k (i.put v f) } := by
  cases o <;> simp only [putM, no] at h <;> try cases h
  split at h
  · rename_i i hi; cases h; exact ⟨_, i, rfl, hi, rfl⟩
  · cases h

theorem frz0_nil (v : AV) : frz0 [] v = v := by cases v <;> rfl
theorem frzV_nil (v : AV) : frzV [] v = v := by
  cases v with
  | tup vs =>
    simp only [frzV]
    congr 1
    induction vs with
    | nil => rfl
    | cons a r ih => rw [List.map_cons, frz0_nil, ih]
  | _ => rfl

/-- a def whose whole body is «return self.f» -/
theorem getter_ok (G : Gd c) (C : Cls c) {fa : Addr} {fd : FuncData} {x : Str} {f : Fd} {p1 p2 p3 : Pos} (D : FnIs c fa fd [.Return (some (.Attribute (.Name x p1) (fkey f) p2)) p3] [x] []) (hd : (x == ("__debug__" : Str)) = false) : ImplF c (n + 1) fa (getF f) := by
  refine (fn_ok (n := n) G D (ImplS.cons (ImplS1.ret (ImplE.attr G C (ImplE.name (i := 0) rfl hd))) ImplS.nil)).sub fun xs st b st' e => ?_
  unfold getF at e
  split at e
  · rename_i o
    obtain ⟨k, i, rfl, hi, rfl, rfl⟩ := attrM_spec e
    simp [runFn, thenM, retM, bd, var, attrM, pu, endFn, hi, frzV_nil]
  · cases e
/-- a def whose whole body is «self.f = y» -/
theorem setter_ok0 (G : Gd c) (C : Cls c) {fa : Addr} {fd : FuncData} {x y : Str} {f : Fd} {p1 p2 p3 p4 : Pos} (D : FnIs c fa fd [.Assign [.Attribute (.Name x p1) (fkey f) p2] (.Name y p3) p4] [x, y] [])
    (hd : (x == ("__debug__" : Str)) = false) (hd' : (y == ("__debug__" : Str)) = false) : ImplF c (n + 1) fa (fun xs => bd (setF f xs) fun v => match xs with | [_, .unb] => no | _ => pu v) := by
  refine (fn_ok (n := n) G D (ImplS.cons (ImplS1.assign (ImplE.name (i := 1) rfl hd') (ImplA.attr G C (ImplE.name (i := 0) rfl hd))) ImplS.nil)).sub fun xs st b st' e => ?_
  obtain ⟨v1, st1, e1, e2⟩ := bd_some e
  unfold setF at e1
  split at e1
  · rename_i o v
    obtain ⟨u, st2, e3, e4⟩ := bd_some e1
    cases e4
    obtain ⟨k, i, rfl, hi, rfl⟩ := putM_spec e3
    cases v with
    | unb => cases e2
    | _ =>
      cases e2
      simp [runFn, thenM, asgM, bd, var, putM, pu, endFn, hi, frzV_nil]
  · cases e1

theorem setter_ok (G : Gd c) (C : Cls c) {fa : Addr} {fd : FuncData} {x y : Str} {f : Fd} {p1 p2 p3 p4 : Pos} (D : FnIs c fa fd [.Assign [.Attribute (.Name x p1) (fkey f) p2] (.Name y p3) p4] [x, y] [])
    (hd : (x == ("__debug__" : Str)) = false) (hd' : (y == ("__debug__" : Str)) = false) : ImplF c (n + 1) fa (setF f) := by
  intro A W st s hr H vs xs hv v st' e R hR
  refine setter_ok0 G C D hd hd' A W st s hr H vs xs hv v st' ?_ R hR
  have e' := e
  unfold setF at e'
  split at e'
  · rename_i o w
    cases hv with
    | cons _ h2 =>
      cases h2 with
      | cons h3 _ =>
        unfold bd
        dsimp only
        rw [e]
        cases w with
        | unb => cases h3
        | _ => rfl
  · cases e'

/-! a method called on an instance -/
/-- the class' own function f under the name m -/
structure MethIs (c : Cx) (m : Str) (fa : Addr) : Prop where
  find : findIn c.K (.ref c.C) m = some (some (.ref fa))
  typ : typeIn c.K (.ref fa) = some (.type "function")
  fn : ∃ oc od fd osl, c.K.lookup fa = some ⟨oc, od, .func fd, osl⟩
  other : ∀ f : Fd, (fkey f == m) = false

theorem FieldsAre.miss {W : Wd} {es : List DictEntry} {i : Ins} (h : FieldsAre W es i) {m : Str} (hm : ∀ f : Fd, (fkey f == m) = false) : PySem.W.getL m es = some .none := by
  cases h with
  | mk a b c d e => simp only [PySem.W.getL, List.find?, Value.isStr, hm, List.any_cons, List.any_nil, DictEntry.refKey]; rfl

def methM (o : Cm AV) (args : Cm (List AV)) (F : List AV → Cm AV) : Cm AV := bd o fun x => match x with
  | .ins k => bd args fun ys => callM F (.ins k :: ys)
  | _ => no

theorem ImplE.meth (G : Gd c) (C : Cls c) {o : Expr} {m : Str} {apos pos : Pos} {es : List Expr} {fa : Addr} {fo : Cm AV} {fs : Cm (List AV)} {F : List AV → Cm AV} (M : MethIs c m fa) (h0 : ImplE c n sx o fo) (h1 : ImplEs c n sx es fs) (h2 : ImplF c n fa F)
    (hb : ∀ env t, attributeBase o m env t = t := by intro _ _; rfl) (hp : es.all plainX = true := by rfl) (hl : (apos.endLine == pos.line) = true := by rfl) (hfew : decide (es.length < 30) = true := by rfl) :
    ImplE c n sx (.Call (.Attribute o m apos) es [] pos) (methM fo fs F) := by
  intro p hsx hr W0 W st s hle I b st' e Q E hQ
  obtain ⟨x, st1, e1, e2⟩ := bd_some e
  obtain ⟨oc, od, fd, osl, hK⟩ := M.fn
  rw [arm_eval_Call, hb]
  refine wpAny_bind (h0 p hsx hr W W st s (Le.refl _) I x st1 e1 _ E fun W1 ov s1 x1 I1 r1 => wpAny_bind (wpAny_standAt ?_))
  cases r1 with
  | ins k hk =>
    obtain ⟨ys, st2, e3, e4⟩ := bd_some e2
    have hform : methodCallForm (es.length + ([] : List Keyword).length) (backTo pos (starEach es p.env)) (backToKw pos (keywordEach [] p.env)) = true := by
      unfold methodCallForm
      have h1 : (backTo pos (starEach es p.env)).all (fun x => !x.1) = true := by
        have := any_false (env := p.env) (pos := pos) hp
        rw [List.all_eq_not_any_not]; simpa using this
      rw [h1]
      show (true && true && decide (es.length + 0 + 0 < 30)) = true
      simpa using hfew
    have hpos : methodCallPos true o p.env apos pos = pure pos := by unfold methodCallPos; simp [hl]
    unfold methodCall
    rw [hform]
    have hi : ∃ i, st1.ins[k]? = some i := by
      have : k < st1.ins.length := by rw [← I1.hr.ni]; exact hk
      exact ⟨_, List.getElem?_eq_getElem this⟩
    obtain ⟨i, hi⟩ := hi
    obtain ⟨ess, mm, J, r⟩ := I1.hr.instAt hi
    refine wpAny_bind (wpAny_holding ?_)
    show wpAny _ _ (getMethod (.ref (W1.ia k)) m _) _ _ _
    refine method_fn (I1.hr.inK G) J C.ga C.gat M.find M.typ (by show (lookIn m (dictOf ess mm)).map _ = _; rw [lookIn_dict, r.miss M.other]; rfl) ?_
    refine wpAny_bind (wpAny_of_eq hpos ?_)
    refine Calls.callWith_function (o := ⟨oc, od, .func fd, osl⟩) (fd := fd) (evalArgs_row hp ?_)
    refine h1 p hsx hr W1 pos W1 st1 s1 (Le.refl _) I1 ys st2 e3 _ E fun W2 vs s2 x2 I2 r2 => ?_
    refine ⟨⟨I2.hr.keep _ _ (G.inK _ _ hK), rfl⟩, ?_⟩
    refine h2.call p hr W2 _ _ (.cons ((VR.ins k hk).mono x2.le) r2) W2 st2 s2 (Le.refl _) I2 b st' e4 Q E fun W3 v s3 x3 I3 r3 => hQ W3 v s3 ((x1.trans x2).trans x3) I3 r3
  | _ => cases e2

/-! a new instance -/
def blank (v : AV) : Ins := ⟨v, .none, .none, .none, .none⟩
def newM : List AV → Cm AV := fun xs st => match xs with
  | [] => some (.ins st.ins.length, { st with ins := st.ins ++ [blank .none] })
  | [v] => some (.ins st.ins.length, { st with ins := st.ins ++ [blank v] })
  | _ => .none

/-- a world with one more instance -/
def Wd.addIns (W : Wd) (x d : Addr) : Wd :=
  { W with role := fun b => if b = x then .ins W.ni else if b = d then .dct W.ni else W.role b, ia := fun k => if k = W.ni then x else W.ia k, da := fun k => if k = W.ni then d else W.da k, ni := W.ni + 1 }

theorem Wd.addIns_other {W : Wd} {x d b : Addr} (h1 : b ≠ x) (h2 : b ≠ d) : (W.addIns x d).role b = W.role b := by
  unfold Wd.addIns; simp [h1, h2]

theorem Le.addIns {W : Wd} {x d : Addr} (hx : W.role x = .oth) (hd : W.role d = .oth) : Le W (W.addIns x d) where
  ni := Nat.le_succ _
  nl := Nat.le_refl _
  ia := fun k hk => if_neg (Nat.ne_of_lt hk)
  da := fun k hk => if_neg (Nat.ne_of_lt hk)
  la := fun _ _ => rfl
  frz := fun a o e => by
    rw [Wd.addIns_other]; exact e
    · intro q; rw [q, hx] at e; cases e
    · intro q; rw [q, hd] at e; cases e

theorem HR.addIns {W : Wd} {st : AS} {h : Heap} {x d : Addr} {es : List DictEntry} {m : Nat} {i : Ins} (H : HR c W st h) (hxd : x ≠ d) (hx : W.role x = .oth) (hd : W.role d = .oth) (bx : c.h0.get? x = .none) (bd' : c.h0.get? d = .none)
    (gx : h.get? x = some (instObj c.C d)) (gd : h.get? d = some (dictOf es m)) (hf : FieldsAre W es i) : HR c (W.addIns x d) { st with ins := st.ins ++ [i] } h := by
  have L := Le.addIns hx hd
  have ne : ∀ b, W.role b ≠ .oth → (W.addIns x d).role b = W.role b := fun b hb => Wd.addIns_other (fun q => hb (q ▸ hx)) (fun q => hb (q ▸ hd))
  have rx : (W.addIns x d).role x = .ins W.ni := by unfold Wd.addIns; simp
  have rd : (W.addIns x d).role d = .dct W.ni := by unfold Wd.addIns; simp [Ne.symm hxd]
  refine ⟨H.keep, fun b hb => ?_, fun b => ?_, fun b o e => ?_, ?_, H.nl, fun k hk => ?_, fun k y e => ?_, fun g hg p hp => ?_, H.nodup⟩
  · by_cases h1 : b = x
    · rw [h1]; exact bx
    · by_cases h2 : b = d
      · rw [h2]; exact bd'
      · refine H.mutA b ?_; unfold Wd.Mut at hb ⊢; rwa [Wd.addIns_other h1 h2] at hb
  · by_cases h1 : b = x
    · rw [h1]; exact .inr ⟨_, gx⟩
    · by_cases h2 : b = d
      · rw [h2]; exact .inr ⟨_, gd⟩
      · rw [Wd.addIns_other h1 h2]; exact H.lt b
  · by_cases h1 : b = x
    · rw [h1, rx] at e; cases e
    · by_cases h2 : b = d
      · rw [h2, rd] at e; cases e
      · rw [Wd.addIns_other h1 h2] at e; exact H.frz b o e
  · show W.ni + 1 = (st.ins ++ [i]).length
    rw [List.length_append, H.ni]; rfl
  · by_cases hk' : k = W.ni
    · subst hk'
      have e1 : (W.addIns x d).ia W.ni = x := if_pos rfl
      have e2 : (W.addIns x d).da W.ni = d := if_pos rfl
      rw [e1, e2]; exact ⟨rx, rd⟩
    · have hlt : k < W.ni := by have : k < W.ni + 1 := hk; omega
      rw [L.ia k hlt, L.da k hlt]
      obtain ⟨r1, r2⟩ := H.iaR k hlt
      exact ⟨(ne _ (by rw [r1]; intro q; cases q)).trans r1, (ne _ (by rw [r2]; intro q; cases q)).trans r2⟩
  · have e' : (st.ins ++ [i])[k]? = some y := e
    by_cases hlt : k < st.ins.length
    · rw [List.getElem?_append_left hlt] at e'
      obtain ⟨es0, m0, e1, e2, r⟩ := H.insA k y e'
      rw [L.ia k (by rw [H.ni]; exact hlt), L.da k (by rw [H.ni]; exact hlt)]
      exact ⟨es0, m0, e1, e2, r.mono L⟩
    · have hk' : k = W.ni := by
        rw [List.getElem?_append_right (by omega)] at e'
        have : k - st.ins.length < 1 := (List.getElem?_eq_some_iff.mp e').1
        rw [H.ni]; omega
      subst hk'
      have e1 : (W.addIns x d).ia W.ni = x := if_pos rfl
      have e2 : (W.addIns x d).da W.ni = d := if_pos rfl
      rw [H.ni, List.getElem?_append_right (Nat.le_refl _), Nat.sub_self] at e'
      cases e'
      rw [e1, e2]
      exact ⟨es, m, gx, gd, hf.mono L⟩
  · obtain ⟨h1, h2, vs, m0, h3, h4⟩ := H.lstA g hg p hp
    exact ⟨h1, (ne (W.la p.1) (by rw [h2]; intro q; cases q)).trans h2, vs, m0, h3, h4.mono L⟩

end
end Mine

namespace Mine

section
variable {c : Cx} {n : Nat} {sx : Sx}

/-! the class' __init__, statement by statement, on an instance that is not whole yet -/
structure InitIs (c : Cx) (fa : Addr) (fd : FuncData) (body : List Stmt) (slf sysid : Str) : Prop where
  find : findIn c.K (.ref c.C) "__init__" = some (some (.ref fa))
  typ : typeIn c.K (.ref fa) = some (.type "function")
  at_ : ∃ oc od osl, c.K.lookup fa = some ⟨oc, od, .func fd, osl⟩
  bodyIs : fd.body = .stmts body
  code : codeIn c.K fd.code fd.qualname = true
  co : fd.scope.isCoroutine = false
  gen : fd.scope.isGenerator = false
  kind : fd.scope.kind = .function
  cell : ∀ x ∈ fd.scope.names, x.2 ≠ .cell
  bind1 : ∀ S x, peek c.K S (bindArgs fd ⟨[x], []⟩) = some [(slf, x), (sysid, .none)]
  bind2 : ∀ S x v, peek c.K S (bindArgs fd ⟨[x, v], []⟩) = some [(slf, x), (sysid, v)]
  k1 : fd.scope.names.lookup slf = some .local
  k2 : fd.scope.names.lookup sysid = some .local
  ne : slf ≠ sysid
  d1 : (slf == ("__debug__" : Str)) = false
  d2 : (sysid == ("__debug__" : Str)) = false
  shape : ∃ p1 p2 p3 p4 p5 p6 p7 p8 p9 p10 p11 p12 p13 p14 p15 p16 p17 p18 p19 p20 k2 k3 k4 k5, body = [
    .Assign [.Attribute (.Name slf p1) (fkey .sys) p2] (.Name sysid p3) p4,
    .Assign [.Attribute (.Name slf p5) (fkey .pub) p6] (.Constant .none k2 p7) p8,
    .Assign [.Attribute (.Name slf p9) (fkey .enc) p10] (.Constant .none k3 p11) p12,
    .Assign [.Attribute (.Name slf p13) (fkey .byt) p14] (.Constant .none k4 p15) p16,
    .Assign [.Attribute (.Name slf p17) (fkey .chr) p18] (.Constant .none k5 p19) p20]

/-- between two of its statements: the dict alone has changed -/
def InitAt (s1 : Shared) (d : Addr) (es : List DictEntry) (s : Shared) : Prop := ∃ h tk m, s = { s1 with heap := h, toks := tk } ∧ h.get? d = some (dictOf es m) ∧ Heap.SameBut d s1.heap h

theorem InitAt.step (C : Cls c) {A : Around} {E : Value → Shared → Prop} {s1 s : Shared} {x d : Addr} {env : Env} {m : Str → Option Value} {es : List DictEntry} {self : Str} {f : Fd} {value : Expr} {val : Value} {p1 p2 p3 : Pos} {Q : Flow → Shared → Prop}
    (X : c.K.In s1.heap) (hxd : x ≠ d) (hx : s1.heap.get? x = some (instObj c.C d)) (hK : c.K.lookup d = .none) (hk : env.scope.kind = .function) (hself : env.kindOf self = some .local) (hns : s1.heap.Ns env.locals m) (hL : env.locals ≠ d) (hm : m self = some (.ref x))
    (hd : (self == ("__debug__" : Str)) = false) (hsw : swapsWith value (some (.Attribute (.Name self p1) (fkey f) p2)) p3.line env = pure false)
    (J : InitAt s1 d es s) (hg : PySem.W.getL (fkey f) es = some .none) (hz : es.length ≤ 900)
    (hv : ∀ s, InitAt s1 d es s → ∀ Q' : Value → Shared → Prop, (∀ s', InitAt s1 d es s' → Q' val s') → wpAny (model c.prog c.w) A (eval value env) Q' E s)
    (h : ∀ hsh t s', InitAt s1 d (PySem.W.putL (fkey f) hsh (.str (fkey f) t) val es) s' → Q .next s') :
    wpAny (model c.prog c.w) A (exec (.Assign [.Attribute (.Name self p1) (fkey f) p2] value p3) env) Q E s := by
  refine plainObj_wpAny_Assign_Attribute (hv s J _ fun s2 J2 => ?_) hsw
  obtain ⟨h2, tk2, m2, rfl, hd2, hs2⟩ := J2
  refine wpAny_Name (wpAny_loadName_local hk hself (hns.sameBut hs2 hL) hm ?_) hd
  have X2 : c.K.In h2 := fun a o e => hs2.extBut a o (fun q => by rw [q, hK] at e; cases e) (X a o e)
  have I2 : InstAt h2 x (instObj c.C d) c.C (some (dictOf es m2)) := ⟨hs2.extBut _ _ hxd hx, rfl, rfl, hd2⟩
  have len : ∀ (hsh : Int) (key v : Value) (l : List DictEntry), (PySem.W.putL (fkey f) hsh key v l).length ≤ l.length + 1 := by
    intro hsh key v l
    induction l with
    | nil => simp [PySem.W.putL]
    | cons a r ih => simp only [PySem.W.putL]; split <;> simp <;> omega
  refine set_raw (s := { s1 with heap := h2, toks := tk2 }) C X2 I2 (C.fields f) (by rw [hg]; rfl) (Nat.le_trans (len ..) (by omega)) fun h' hd' hs' => ?_
  exact h _ _ _ ⟨h', _, _, rfl, hd', hs2.trans hs'⟩

theorem init_ok (G : Gd c) (C : Cls c) {fa : Addr} {fd : FuncData} {body : List Stmt} {self sysid : Str} (D : InitIs c fa fd body self sysid) {A : Around} (hr : A.depth < recursionLimit) {s : Shared} {x d : Addr} {args : List Value} {val : Value}
    (hargs : (args = [.ref x] ∧ val = .none) ∨ args = [.ref x, val]) (hkeep : ∀ a o, c.h0.get? a = some o → s.heap.get? a = some o) (hxd : x ≠ d) (hx : s.heap.get? x = some (instObj c.C d)) (hd : s.heap.get? d = some (dictOf [] 0)) (hd0 : c.h0.get? d = .none) {R : Result → Shared → Prop}
    (h : ∀ s' h1 t1 t2 t3 t4 t5 u1 u2 u3 u4 u5 m, s'.gens = s.gens → s'.os = s.os → (∀ b o, b ≠ d → s.heap.get? b = some o → s'.heap.get? b = some o) →
      s'.heap.get? d = some (dictOf [⟨h1, .str (fkey .sys) t1, val⟩, ⟨u1, .str (fkey .pub) t2, .none⟩, ⟨u2, .str (fkey .enc) t3, .none⟩, ⟨u3, .str (fkey .byt) t4, .none⟩, ⟨u4, .str (fkey .chr) t5, .none⟩] m) → u5 = 0 → R (.ok (.ret .none)) s') :
    codeAny (model c.prog c.w) A (.call (.ref fa) ⟨args, []⟩) R s := by
  obtain ⟨oc, od, osl, hK⟩ := D.at_
  have X : c.K.In s.heap := fun a o e => hkeep _ _ (G.inK a o e)
  have hKd : c.K.lookup d = .none := by
    cases e : c.K.lookup d with
    | none => rfl
    | some o => rw [G.inK _ _ e] at hd0; cases hd0
  have hb : BindsTo s fd ⟨args, []⟩ [(self, .ref x), (sysid, val)] := by
    rcases hargs with ⟨rfl, rfl⟩ | rfl
    · exact kp_binds X fun S => D.bind1 S _
    · exact kp_binds X fun S => D.bind2 S _ _
  refine codeAny_call_def hr (X _ _ hK) rfl (G.nolimit.keeps hkeep) (codeRec_of X D.code) D.bodyIs hb D.cell (fun y hy => ?_) (fun h1 hns hk1 => ?_) D.co D.gen D.kind
  · rcases List.mem_cons.mp hy with rfl | hy
    · exact D.k1
    · rcases List.mem_cons.mp hy with rfl | hy
      · exact D.k2
      · cases hy
  · obtain ⟨p1, p2, p3, p4, p5, p6, p7, p8, p9, p10, p11, p12, p13, p14, p15, p16, p17, p18, p19, p20, k2, k3, k4, k5, rfl⟩ := D.shape
    have m1 : ([(self, Value.ref x), (sysid, val)].reverse.lookup self) = some (.ref x) := by
      have : (self == sysid) = false := by simpa using D.ne
      simp [List.lookup_cons, this]
    have m2 : ([(self, Value.ref x), (sysid, val)].reverse.lookup sysid) = some val := by simp [List.lookup_cons]
    have hL : s.heap.objs.size ≠ d := fun q => Nat.lt_irrefl _ (q ▸ Heap.lt_size hd)
    let s1 : Shared := { s with heap := h1, toks := s.toks + 2 }
    have X1 : c.K.In s1.heap := fun a o e => hk1 _ _ (X a o e)
    have J0 : InitAt s1 d [] s1 := ⟨h1, _, 0, rfl, hk1 _ _ hd, Heap.SameBut.refl ..⟩
    have st : ∀ (f : Fd) (value : Expr) (v : Value) (q1 q2 q3 : Pos) (es : List DictEntry) (s2 : Shared) (Q : Flow → Shared → Prop), InitAt s1 d es s2 → PySem.W.getL (fkey f) es = some .none → es.length ≤ 900 →
        (swapsWith value (some (.Attribute (.Name self q1) (fkey f) q2)) q3.line (callEnv fd s.heap.objs.size fa) = pure false) →
        (∀ s3, InitAt s1 d es s3 → ∀ Q' : Value → Shared → Prop, (∀ s', InitAt s1 d es s' → Q' v s') → wpAny (model c.prog c.w) (A.deeper (callEnv fd s.heap.objs.size fa)) (eval value (callEnv fd s.heap.objs.size fa)) Q' (fun _ _ => False) s3) →
        (∀ hsh t s', InitAt s1 d (PySem.W.putL (fkey f) hsh (.str (fkey f) t) v es) s' → Q .next s') →
        wpAny (model c.prog c.w) (A.deeper (callEnv fd s.heap.objs.size fa)) (exec (.Assign [.Attribute (.Name self q1) (fkey f) q2] value q3) (callEnv fd s.heap.objs.size fa)) Q (fun _ _ => False) s2 :=
      fun f value v q1 q2 q3 es s2 Q J hg hz hsw hv hq => InitAt.step (env := callEnv fd s.heap.objs.size fa) C X1 hxd (hk1 _ _ hx) hKd D.kind D.k1 hns hL m1 D.d1 hsw J hg hz hv hq
    have none_v : ∀ (k : Nat) (q : Pos) (es : List DictEntry) (s3 : Shared), InitAt s1 d es s3 → ∀ Q' : Value → Shared → Prop, (∀ s', InitAt s1 d es s' → Q' .none s') → wpAny (model c.prog c.w) (A.deeper (callEnv fd s.heap.objs.size fa)) (eval (.Constant .none k q) (callEnv fd s.heap.objs.size fa)) Q' (fun _ _ => False) s3 :=
      fun k q es s3 J Q' hq => wpAny_Constant_none (hq s3 J)
    refine wpAny_noRaise ?_
    refine wpAny_execs_cons (st .sys _ val _ _ _ [] s1 _ J0 rfl (by decide) rfl (fun s3 J Q' hq => ?_) fun g1 t1 s2 J2 => ?_)
    · obtain ⟨h3, tk3, m3, rfl, e1, e2⟩ := J
      exact wpAny_Name (wpAny_loadName_local (env := callEnv fd s.heap.objs.size fa) D.kind D.k2 (hns.sameBut e2 hL) m2 (hq _ ⟨h3, tk3, m3, rfl, e1, e2⟩)) D.d2
    dsimp only
    refine wpAny_execs_cons (st .pub _ .none _ _ _ _ s2 _ J2 (by simp only [PySem.W.getL, PySem.W.putL, Value.isStr, fkey_is]; rfl) (by simp [PySem.W.putL]) rfl (none_v _ _ _) fun g2 t2 s3 J3 => ?_)
    dsimp only
    refine wpAny_execs_cons (st .enc _ .none _ _ _ _ s3 _ J3 (by simp only [PySem.W.getL, PySem.W.putL, Value.isStr, fkey_is]; rfl) (by simp only [PySem.W.putL, Value.isStr, fkey_is]; first | (show 2 ≤ 900; decide) | (show 3 ≤ 900; decide) | (show 4 ≤ 900; decide)) rfl (none_v _ _ _) fun g3 t3 s4 J4 => ?_)
    dsimp only
    refine wpAny_execs_cons (st .byt _ .none _ _ _ _ s4 _ J4 (by simp only [PySem.W.getL, PySem.W.putL, Value.isStr, fkey_is]; rfl) (by simp only [PySem.W.putL, Value.isStr, fkey_is]; first | (show 2 ≤ 900; decide) | (show 3 ≤ 900; decide) | (show 4 ≤ 900; decide)) rfl (none_v _ _ _) fun g4 t4 s5 J5 => ?_)
    dsimp only
    refine wpAny_execs_cons (st .chr _ .none _ _ _ _ s5 _ J5 (by simp only [PySem.W.getL, PySem.W.putL, Value.isStr, fkey_is]; rfl) (by simp only [PySem.W.putL, Value.isStr, fkey_is]; first | (show 2 ≤ 900; decide) | (show 3 ≤ 900; decide) | (show 4 ≤ 900; decide)) rfl (none_v _ _ _) fun g5 t5 s6 J6 => ?_)
    dsimp only
    refine wpAny_execs_nil ?_
    simp only [PySem.W.putL, Value.isStr, fkey_is] at J6
    obtain ⟨h6, tk6, m6, rfl, e1, e2⟩ := J6
    exact h _ g1 t1 t2 t3 t4 t5 g2 g3 g4 g5 0 m6 rfl rfl (fun b o hb e => e2.extBut b o hb (hk1 b o e)) e1 rfl

theorem new_ok (G : Gd c) (C : Cls c) {fa : Addr} {fd : FuncData} {body : List Stmt} {self sysid : Str} (D : InitIs c fa fd body self sysid) : OkCall c (n + 1) (.ref c.C) newM := by
  intro p hr W0 vs xs hv W st s hle I b st' e Q E hQ
  have X := I.hr.inK G
  obtain ⟨hh, g, dr, t, os⟩ := s
  have hv' := hv.mono hle
  have main : ∀ (args : List Value) (val : Value) (v : AV), args = vs → VR W val v → (∀ y : Addr, (Value.ref y :: args = [.ref y] ∧ val = .none) ∨ Value.ref y :: args = [.ref y, val]) → some (AV.ins st.ins.length, { st with ins := st.ins ++ [blank v] }) = some (b, st') →
      wpAny (model c.prog c.w) p.A (call (.ref c.C) vs) Q E ⟨hh, g, dr, t, os⟩ := by
    intro args val v hargs hval hsh e'
    cases e'
    subst hargs
    refine wpAny_call (make_core (makes_of X C.makes) (looks_findIn X D.find) (fun self => bind_fn X self D.typ) (.inl rfl) ?_)
    have nd : hh.get? hh.objs.size = .none := get_none_of_ge (Nat.le_refl _)
    have nx : hh.get? (hh.objs.size + 1) = .none := get_none_of_ge (Nat.le_succ _)
    have hk : ∀ b o, hh.get? b = some o → ((hh.push emptyDict).push (instObj c.C hh.objs.size)).get? b = some o := fun b o e => Heap.get?_push_of_some _ (Heap.get?_push_of_some _ e)
    have gx : ((hh.push emptyDict).push (instObj c.C hh.objs.size)).get? (hh.objs.size + 1) = some (instObj c.C hh.objs.size) := by
      have := Heap.get?_push_size (hh.push emptyDict) (o := instObj c.C hh.objs.size) rfl
      rwa [Heap.size_push] at this
    have gd : ((hh.push emptyDict).push (instObj c.C hh.objs.size)).get? hh.objs.size = some (dictOf [] 0) := Heap.get?_push_of_some _ (Heap.get?_push_size _ rfl)
    refine init_ok G C D (by rw [depth_under_make]; have := hr.2.1; unfold recursionLimit; omega) (x := hh.objs.size + 1) (d := hh.objs.size) (val := val) (hsh _) (fun a o q => hk a o (I.hr.keep a o q)) (Nat.ne_of_gt (Nat.lt_succ_self _)) gx gd (I.hr.base_none nd) ?_
    intro s' h1 t1 t2 t3 t4 t5 u1 u2 u3 u4 u5 m hg ho hkeep hd _
    refine ⟨rfl, ?_⟩
    have kk : ∀ b o, hh.get? b = some o → s'.heap.get? b = some o := fun b o q => hkeep b o (fun z => by rw [z, nd] at q; cases q) (hk b o q)
    have rx := I.hr.oth_of_none nx
    have rd := I.hr.oth_of_none nd
    have I' : Inv c p W st s' := I.keeps kk
    have hf : FieldsAre W _ (blank v) := FieldsAre.mk (h1 := h1) (h2 := u1) (h3 := u2) (h4 := u3) (h5 := u4) (t1 := t1) (t2 := t2) (t3 := t3) (t4 := t4) (t5 := t5) (i := blank v) hval .none .none .none .none
    have H := I'.hr.addIns (x := hh.objs.size + 1) (d := hh.objs.size) (Nat.ne_of_gt (Nat.lt_succ_self _)) rx rd (I.hr.base_none nx) (I.hr.base_none nd) (hkeep _ _ (Nat.ne_of_gt (Nat.lt_succ_self _)) gx) hd hf
    have hlocne : ∀ a, (∃ o, hh.get? a = some o) → (W.addIns (hh.objs.size + 1) hh.objs.size).role a = W.role a := fun a ⟨o, q⟩ => Wd.addIns_other (fun z => by rw [z, nx] at q; cases q) (fun z => by rw [z, nd] at q; cases q)
    refine hQ (W.addIns (hh.objs.size + 1) hh.objs.size) _ s' ⟨Le.addIns rx rd, fun a o q => ⟨o, kk a o q⟩, fun a o q z => (hlocne a ⟨o, q⟩).trans z, fun a o _ _ q => kk a o q, hg, ho⟩ ⟨H, I'.fr.mono (Le.addIns rx rd) ?_ ?_⟩ ?_
    · obtain ⟨ml, ⟨o, es, ep, q, _⟩, _⟩ := I.fr.ns
      exact (hlocne _ ⟨o, q⟩).trans I.fr.roleL
    · intro y a q
      obtain ⟨v', o, z, _⟩ := I.fr.cells y a q
      exact (hlocne _ ⟨o, z⟩).trans (I.fr.roleC y a q).1
    · have e1 : (W.addIns (hh.objs.size + 1) hh.objs.size).ia st.ins.length = hh.objs.size + 1 := by rw [← I.hr.ni]; exact if_pos rfl
      have := VR.ins (W := W.addIns (hh.objs.size + 1) hh.objs.size) st.ins.length (by rw [← I.hr.ni]; exact Nat.lt_succ_self _)
      rwa [e1] at this
  unfold newM at e
  split at e
  · cases hv'; exact main [] .none .none rfl .none (fun y => .inl ⟨rfl, rfl⟩) e
  · rename_i v
    cases hv' with
    | cons h1 h2 => cases h2; exact main [_] _ _ rfl h1 (fun y => .inr rfl) e
  · cases e

theorem ImplE.new (G : Gd c) (C : Cls c) {fa : Addr} {fd : FuncData} {body : List Stmt} {self sysid : Str} (D : InitIs c fa fd body self sysid) {x : Str} {p0 pos : Pos} {es : List Expr} {fs : Cm (List AV)} (hx : sx.sc.names.lookup x = some .globalImplicit) (hg : c.Glob x (.ref c.C))
    (h1 : ImplEs c (n + 1) sx es fs) (hd : (x == ("__debug__" : Str)) = false := by decide) (hp : es.all plainX = true := by rfl) : ImplE c (n + 1) sx (.Call (.Name x p0) es [] pos) (bd fs newM) := by
  intro p hsx hr W0 W st s hle I b st' e Q E hQ
  obtain ⟨xs, st1, e1, e2⟩ := bd_some e
  refine Call_ (load_glob G I (by rw [hsx]; exact hx) hg hd ?_)
  have fin : ∀ W1 vs s1, Ext p.Own W s W1 s1 → Inv c p W1 st1 s1 → VRs W1 vs xs → wpAny (model c.prog c.w) p.A (call (.ref c.C) vs) Q E s1 := fun W1 vs s1 x1 I1 r1 =>
    new_ok G C D p hr W1 vs xs r1 W1 st1 s1 (Le.refl _) I1 b st' e2 Q E fun W2 v s2 x2 I2 r2 => hQ W2 v s2 (x1.trans x2) I2 r2
  cases es with
  | nil =>
    have h := h1 p hsx hr W pos W st s (Le.refl _) I xs st1 e1
    refine callWith_K0 (I.hr.inK G) C.keep ?_
    have h' := h (fun vs s1 => vs = [] ∧ s1 = s → wpAny (model c.prog c.w) p.A (call (.ref c.C) ([] ++ [])) Q E s) (fun _ _ => False) (fun W1 vs s1 x1 I1 r1 hh => by obtain ⟨h1, h2⟩ := hh; subst h1; rw [h2] at x1 I1; exact fin W1 [] s x1 I1 r1)
    intro Γ pp hΓ
    exact (h' Γ pp hΓ) ⟨rfl, rfl⟩ Γ pp hΓ
  | cons e0 r0 =>
    have he : plainX e0 = true := (Bool.and_eq_true_iff.mp (List.all_cons ▸ hp)).1
    refine callWith_K (G.inK) C.keep (h1 p hsx hr W pos W st s (Le.refl _) I xs st1 e1 _ E fun W1 vs s1 x1 I1 r1 => ⟨I1.hr.inK G, ?_⟩) (star_plain he) (any_false (Bool.and_eq_true_iff.mp (List.all_cons ▸ hp)).2)
    exact fin W1 vs s1 x1 I1 r1

end
end Mine

namespace Mine

/-! the heap of mutable lists -/
theorem lookL_none {k : Nat} : ∀ {g : List (Nat × List AV)}, lookL k g = .none → ∀ p ∈ g, p.1 ≠ k
  | [], _, _, h => by cases h
  | (j, xs) :: r, h, p, hp => by
    simp only [lookL] at h
    split at h
    · cases h
    · rename_i q
      rcases List.mem_cons.mp hp with rfl | hp
      · exact fun e => q e.symm
      · exact lookL_none h p hp
theorem getL1_mem {k : Nat} {xs : List AV} : ∀ {l : LH}, getL1 k l = some xs → ∃ g ∈ l, (k, xs) ∈ g
  | [], h => by cases h
  | g :: r, h => by
    simp only [getL1] at h
    split at h
    · rename_i ys e; cases h; exact ⟨g, List.mem_cons_self, lookL_mem e⟩
    · obtain ⟨g', h1, h2⟩ := getL1_mem h; exact ⟨g', List.mem_cons_of_mem _ h1, h2⟩
theorem putSeg_fst {k : Nat} {ys : List AV} : ∀ g : List (Nat × List AV), (putSeg k ys g).map (·.1) = g.map (·.1)
  | [] => rfl
  | (j, xs) :: r => by
    simp only [putSeg]
    split
    · rfl
    · rw [List.map_cons, List.map_cons, putSeg_fst r]
theorem putL1_fst {k : Nat} {ys : List AV} : ∀ l : LH, (putL1 k ys l).flatten.map (·.1) = l.flatten.map (·.1)
  | [] => rfl
  | g :: r => by
    simp only [putL1]
    split
    · rw [List.flatten_cons, List.flatten_cons, List.map_append, List.map_append, putSeg_fst]
    · rw [List.flatten_cons, List.flatten_cons, List.map_append, List.map_append, putL1_fst r]
theorem putSeg_mem {k : Nat} {ys : List AV} {p : Nat × List AV} : ∀ {g : List (Nat × List AV)}, (g.map (·.1)).Nodup → p ∈ putSeg k ys g → p = (k, ys) ∨ (p ∈ g ∧ p.1 ≠ k)
  | [], _, h => by cases h
  | (j, xs) :: r, nd, h => by
    rw [List.map_cons, List.nodup_cons] at nd
    simp only [putSeg] at h
    split at h
    · rename_i q
      subst q
      rcases List.mem_cons.mp h with h | h
      · exact .inl h
      · exact .inr ⟨List.mem_cons_of_mem _ h, fun e => nd.1 (e ▸ List.mem_map.mpr ⟨p, h, rfl⟩)⟩
    · rename_i q
      rcases List.mem_cons.mp h with h | h
      · subst h; exact .inr ⟨List.mem_cons_self, fun e => q e.symm⟩
      · rcases putSeg_mem nd.2 h with h | ⟨h1, h2⟩
        · exact .inl h
        · exact .inr ⟨List.mem_cons_of_mem _ h1, h2⟩
theorem putL1_mem {k : Nat} {ys : List AV} {p : Nat × List AV} : ∀ {l : LH}, (l.flatten.map (·.1)).Nodup → p ∈ (putL1 k ys l).flatten → p = (k, ys) ∨ (p ∈ l.flatten ∧ p.1 ≠ k)
  | [], _, h => by cases h
  | g :: r, nd, h => by
    rw [List.flatten_cons, List.map_append, List.nodup_append] at nd
    simp only [putL1] at h
    split at h
    · rename_i zs hz
      rw [List.flatten_cons, List.mem_append] at h
      rcases h with h | h
      · rcases putSeg_mem nd.1 h with h | ⟨h1, h2⟩
        · exact .inl h
        · exact .inr ⟨by rw [List.flatten_cons, List.mem_append]; exact .inl h1, h2⟩
      · exact .inr ⟨by rw [List.flatten_cons, List.mem_append]; exact .inr h, fun e => nd.2.2 k (List.mem_map.mpr ⟨_, lookL_mem hz, rfl⟩) p.1 (List.mem_map.mpr ⟨p, h, rfl⟩) e.symm⟩
    · rename_i hz
      rw [List.flatten_cons, List.mem_append] at h
      rcases h with h | h
      · exact .inr ⟨by rw [List.flatten_cons, List.mem_append]; exact .inl h, lookL_none hz p h⟩
      · rcases putL1_mem nd.2.1 h with h | ⟨h1, h2⟩
        · exact .inl h
        · exact .inr ⟨by rw [List.flatten_cons, List.mem_append]; exact .inr h1, h2⟩
theorem pushL1_mem {k : Nat} {xs : List AV} {p : Nat × List AV} : ∀ {l : LH}, p ∈ (pushL1 k xs l).flatten → p = (k, xs) ∨ p ∈ l.flatten
  | [], h => by simp [pushL1] at h; exact .inl h
  | g :: r, h => by
    simp only [pushL1, List.flatten_cons, List.cons_append, List.mem_cons, List.mem_append] at h ⊢
    exact h
theorem pushL1_fst {k : Nat} {xs : List AV} : ∀ l : LH, (pushL1 k xs l).flatten.map (·.1) = k :: l.flatten.map (·.1)
  | [] => rfl
  | g :: r => by simp only [pushL1, List.flatten_cons, List.cons_append, List.map_cons]

section
variable {c : Cx} {n : Nat} {sx : Sx}

theorem HR.lstA' {W : Wd} {st : AS} {h : Heap} (H : HR c W st h) {p : Nat × List AV} (hp : p ∈ st.lst.flatten) : p.1 < W.nl ∧ W.role (W.la p.1) = .lob p.1 ∧ ∃ vs n, h.get? (W.la p.1) = some (listOf vs.toArray n) ∧ VRs W vs p.2 := by
  obtain ⟨g, hg, hp⟩ := List.mem_flatten.mp hp
  exact H.lstA g hg p hp
theorem HR.lobAt {W : Wd} {st : AS} {h : Heap} (H : HR c W st h) {k : Nat} {xs : List AV} (e : getL1 k st.lst = some xs) : k < W.nl ∧ W.role (W.la k) = .lob k ∧ ∃ vs n, h.get? (W.la k) = some (listOf vs.toArray n) ∧ VRs W vs xs := by
  obtain ⟨g, hg, hp⟩ := getL1_mem e
  exact H.lstA g hg _ hp

theorem HR.updLob {W : Wd} {st : AS} {h h' : Heap} {k m : Nat} {xs ys : List AV} {vs : List Value} (H : HR c W st h) (e : getL1 k st.lst = some xs) (hd : h'.get? (W.la k) = some (listOf vs.toArray m)) (hs : Heap.SameBut (W.la k) h h') (hv : VRs W vs ys) :
    HR c W { st with lst := putL1 k ys st.lst } h' := by
  obtain ⟨r0, r2, _⟩ := H.lobAt e
  have hm : W.Mut (W.la k) := by unfold Wd.Mut; rw [r2]; trivial
  have kp : ∀ a o, a ≠ W.la k → h.get? a = some o → h'.get? a = some o := fun a o ha e => hs.extBut a o ha e
  refine ⟨fun a o e => kp a o (fun q => ?_) (H.keep a o e), H.mutA, fun a => ?_, fun a o e => kp a o (fun q => ?_) (H.frz a o e), H.ni, H.nl, H.iaR, fun j y e => ?_, fun g hg p hp => ?_, ?_⟩
  · rw [q, H.mutA _ hm] at e; cases e
  · rcases Classical.em (a = W.la k) with q | q
    · subst q; exact .inr ⟨_, hd⟩
    · exact (H.lt a).imp id fun ⟨o, z⟩ => ⟨o, kp a o q z⟩
  · rw [q, r2] at e; cases e
  · obtain ⟨es0, m0, e1, e2, r⟩ := H.insA j y e
    have hj : j < W.ni := by rw [H.ni]; exact (List.getElem?_eq_some_iff.mp e).1
    obtain ⟨s1, s2⟩ := H.iaR j hj
    exact ⟨es0, m0, kp _ _ (fun q => by rw [q, r2] at s1; cases s1) e1, kp _ _ (fun q => by rw [q, r2] at s2; cases s2) e2, r⟩
  · rcases putL1_mem H.nodup (List.mem_flatten.mpr ⟨g, hg, hp⟩) with q | ⟨q1, q2⟩
    · subst q; exact ⟨r0, r2, vs, m, hd, hv⟩
    · obtain ⟨h1, h2, us, m0, h3, h4⟩ := H.lstA' q1
      exact ⟨h1, h2, us, m0, kp _ _ (fun z => by rw [z, r2] at h2; cases h2; exact q2 rfl) h3, h4⟩
  · show ((putL1 k ys st.lst).flatten.map (·.1)).Nodup
    rw [putL1_fst]; exact H.nodup

theorem lob_change {p : Pl} {W : Wd} {st : AS} {s : Shared} {h' : Heap} {k m tk : Nat} {xs ys : List AV} {vs : List Value} (I : Inv c p W st s) (e : getL1 k st.lst = some xs) (hd : h'.get? (W.la k) = some (listOf vs.toArray m)) (hs : Heap.SameBut (W.la k) s.heap h') (hv : VRs W vs ys) :
    Inv c p W { st with lst := putL1 k ys st.lst } { s with heap := h', toks := tk } ∧ Ext p.Own W s W { s with heap := h', toks := tk } := by
  obtain ⟨_, r2, _⟩ := I.hr.lobAt e
  have hm : W.Mut (W.la k) := by unfold Wd.Mut; rw [r2]; trivial
  exact ⟨⟨I.hr.updLob e hd hs hv, I.fr.change hm hs⟩, Ext.change hm hs ⟨_, hd⟩⟩

/-! a new mutable list -/
def Wd.addLob (W : Wd) (a : Addr) : Wd :=
  { W with role := fun b => if b = a then .lob W.nl else W.role b, la := fun k => if k = W.nl then a else W.la k, nl := W.nl + 1 }
theorem Le.addLob {W : Wd} {a : Addr} (h : W.role a = .oth) : Le W (W.addLob a) where
  ni := Nat.le_refl _
  nl := Nat.le_succ _
  ia := fun _ _ => rfl
  da := fun _ _ => rfl
  la := fun k hk => if_neg (Nat.ne_of_lt hk)
  frz := fun b o e => by
    show (if b = a then Role.lob W.nl else W.role b) = _
    rw [if_neg]; exact e
    intro q; rw [q, h] at e; cases e
theorem HR.addLob {W : Wd} {st : AS} {h : Heap} {a : Addr} {vs : List Value} {m : Nat} {xs : List AV} (H : HR c W st h) (hr : W.role a = .oth) (hb : c.h0.get? a = .none) (ha : h.get? a = some (listOf vs.toArray m)) (hv : VRs W vs xs) :
    HR c (W.addLob a) { st with lst := pushL1 st.nl xs st.lst, nl := st.nl + 1 } h := by
  have L := Le.addLob hr
  have ne : ∀ b, W.role b ≠ .oth → (W.addLob a).role b = W.role b := fun b hb => if_neg (show b ≠ a from fun q => hb (q ▸ hr))
  have rs : (W.addLob a).role a = .lob W.nl := if_pos rfl
  have ot : ∀ b, b ≠ a → (W.addLob a).role b = W.role b := fun b hb => if_neg hb
  refine ⟨H.keep, fun b hm => ?_, fun b => ?_, fun b o e => ?_, H.ni, congrArg (· + 1) H.nl, fun k hk => ?_, fun k i e => ?_, fun g hg p hp => ?_, ?_⟩
  · by_cases q : b = a
    · rw [q]; exact hb
    · refine H.mutA b ?_; unfold Wd.Mut at hm ⊢; rwa [ot b q] at hm
  · by_cases q : b = a
    · rw [q]; exact .inr ⟨_, ha⟩
    · rw [ot b q]; exact H.lt b
  · by_cases q : b = a
    · rw [q, rs] at e; cases e
    · rw [ot b q] at e; exact H.frz b o e
  · obtain ⟨r1, r2⟩ := H.iaR k hk
    exact ⟨(ne (W.ia k) (by rw [r1]; intro q; cases q)).trans r1, (ne (W.da k) (by rw [r2]; intro q; cases q)).trans r2⟩
  · obtain ⟨es, m0, e1, e2, r⟩ := H.insA k i e
    exact ⟨es, m0, e1, e2, r.mono L⟩
  · rcases pushL1_mem (List.mem_flatten.mpr ⟨g, hg, hp⟩) with q | q
    · subst q
      have e1 : (W.addLob a).la st.nl = a := by rw [← H.nl]; exact if_pos rfl
      rw [e1]
      refine ⟨?_, ?_, vs, m, ha, hv.mono L⟩
      · show st.nl < W.nl + 1; rw [H.nl]; exact Nat.lt_succ_self _
      · rw [rs, H.nl]
    · obtain ⟨h1, h2, us, m0, h3, h4⟩ := H.lstA' q
      have e1 : (W.addLob a).la p.1 = W.la p.1 := L.la _ h1
      rw [e1]
      exact ⟨Nat.lt_succ_of_lt h1, (ne _ (by rw [h2]; intro q; cases q)).trans h2, us, m0, h3, h4.mono L⟩
  · show ((pushL1 st.nl xs st.lst).flatten.map (·.1)).Nodup
    rw [pushL1_fst, List.nodup_cons]
    refine ⟨fun hm => ?_, H.nodup⟩
    obtain ⟨p, hp, e⟩ := List.mem_map.mp hm
    have := (H.lstA' hp).1
    rw [e, H.nl] at this
    exact Nat.lt_irrefl _ this

def newLob (xs : List AV) : Cm AV := fun st => if xs.length ≤ 100000 then some (.lob st.nl, { st with lst := pushL1 st.nl xs st.lst, nl := st.nl + 1 }) else .none

/-- a list that stands at a new address becomes a mutable one -/
theorem Inv.toLob {p : Pl} {W : Wd} {st : AS} {s s' : Shared} {a : Addr} {vs : List Value} {m : Nat} {xs : List AV} (I : Inv c p W st s) (hn : s.heap.get? a = .none) (k : ∀ b o, s.heap.get? b = some o → s'.heap.get? b = some o)
    (ha : s'.heap.get? a = some (listOf vs.toArray m)) (hv : VRs W vs xs) (hg : s'.gens = s.gens) (ho : s'.os = s.os) :
    Inv c p (W.addLob a) { st with lst := pushL1 st.nl xs st.lst, nl := st.nl + 1 } s' ∧ Ext p.Own W s (W.addLob a) s' ∧ VR (W.addLob a) (.ref a) (.lob st.nl) := by
  have hr := I.hr.oth_of_none hn
  have I' : Inv c p W st s' := I.keeps k
  have ot : ∀ b o, s.heap.get? b = some o → (W.addLob a).role b = W.role b := fun b o e => if_neg (show b ≠ a from fun q => by rw [q, hn] at e; cases e)
  refine ⟨⟨I'.hr.addLob hr (I.hr.base_none hn) ha hv, I'.fr.mono (Le.addLob hr) ?_ fun y b q => ?_⟩, ⟨Le.addLob hr, fun b o e => ⟨o, k b o e⟩, fun b o e z => (ot b o e).trans z, fun b o _ _ e => k b o e, hg, ho⟩, ?_⟩
  · obtain ⟨ml, ⟨o, es, ep, q, _⟩, _⟩ := I.fr.ns
    exact (ot _ o q).trans I.fr.roleL
  · obtain ⟨v', o, z, _⟩ := I.fr.cells y b q
    exact (ot _ o z).trans (I.fr.roleC y b q).1
  · have e1 : (W.addLob a).la st.nl = a := by rw [← I.hr.nl]; exact if_pos rfl
    have := VR.lob (W := W.addLob a) st.nl (by show st.nl < W.nl + 1; rw [I.hr.nl]; exact Nat.lt_succ_self _)
    rwa [e1] at this

theorem newLob_ok {p : Pl} {W0 : Wd} {vs : List Value} {xs : List AV} (h : VRs W0 vs xs) : Ok c p W0 (PySem.newList vs) VR (newLob xs) := by
  intro W st s hle I b st' e Q E hQ
  unfold newLob at e
  split at e
  · rename_i hsz
    cases e
    have hl := h.length
    refine wpAny_newObj_type ?_ (by show vs.toArray.size ≤ sizeLine; rw [List.size_toArray, sizeLine_eq]; omega)
    obtain ⟨I', x, r⟩ := I.toLob (s' := { s with heap := s.heap.push (listOf vs.toArray 0) }) (a := s.heap.objs.size) (get_none_of_ge (Nat.le_refl _)) (fun _ _ e => Heap.get?_push_of_some _ e) (Heap.get?_push_size _ rfl) (h.mono hle) rfl rfl
    exact hQ _ _ _ x I' r
  · cases e

theorem ImplE.listMut {es : List Expr} {pos : Pos} {f : Cm (List AV)} (h : ImplEs c n sx es f) : ImplE c n sx (.List es pos) (bd f newLob) := by
  intro p hsx hr W0 W st s hle I b st' e Q E hQ
  obtain ⟨xs, st1, e1, e2⟩ := bd_some e
  refine List_ (h p hsx hr W pos W st s (Le.refl _) I xs st1 e1 _ E fun W1 vs s1 x1 I1 r1 => ?_)
  exact newLob_ok r1 W1 st1 s1 (Le.refl _) I1 b st' e2 Q E fun W2 v s2 x2 I2 r2 => hQ W2 v s2 (x1.trans x2) I2 r2

/-- the items of a list, mutable or not -/
def itemsM : AV → Cm (List AV) := fun x st => match x with
  | .lst xs => some (xs, st)
  | .lob k => (match getL1 k st.lst with | some xs => some (xs, st) | .none => .none)
  | _ => .none
theorem items_at {p : Pl} {W : Wd} {st st' : AS} {s : Shared} (I : Inv c p W st s) {v : Value} {x : AV} {xs : List AV} (hv : VR W v x) (e : itemsM x st = some (xs, st')) :
    st' = st ∧ ∃ a vs m, v = .ref a ∧ s.heap.get? a = some (listOf vs.toArray m) ∧ VRs W vs xs := by
  cases hv with
  | lst h r => simp only [itemsM] at e; cases e; exact ⟨rfl, _, _, _, rfl, I.hr.frz _ _ h, r⟩
  | lob k hk =>
    simp only [itemsM] at e
    split at e
    · rename_i ys hy
      cases e
      obtain ⟨_, _, vs, m, h3, h4⟩ := I.hr.lobAt hy
      exact ⟨rfl, _, vs, m, rfl, h3, h4⟩
    · cases e
  | _ => simp only [itemsM] at e; cases e

end
end Mine

namespace Mine

section
variable {c : Cx} {n : Nat} {sx : Sx}

/-! methods of lists -/
def chkL (x : AV) : Cm Unit := fun st => match itemsM x st with
  | some _ => some ((), st)
  | .none => .none
def OkMeth (c : Cx) (n : Nat) (id : String) (F : AV → List AV → Cm AV) : Prop := ∀ p : Pl, Room n p.A → ∀ W0 o x vs xs, VR W0 o x → VRs W0 vs xs → Ok c p W0 (call (.builtin id) (o :: vs)) VR (F x xs)

def lmethM (fo : Cm AV) (fs : Cm (List AV)) (F : AV → List AV → Cm AV) : Cm AV := bd fo fun x => bd (chkL x) fun _ => bd fs fun ys => F x ys

theorem ImplE.lmeth {o : Expr} {m : Str} {id : String} {apos pos : Pos} {es : List Expr} {fo : Cm AV} {fs : Cm (List AV)} {F : AV → List AV → Cm AV} (slot : Slot "list" m id) (hty : typeOf (.builtin id) = pure (.type "method_descriptor"))
    (h0 : ImplE c n sx o fo) (h1 : ImplEs c n sx es fs) (h2 : OkMeth c n id F)
    (hb : ∀ env t, attributeBase o m env t = t := by intro _ _; rfl) (hp : es.all plainX = true := by rfl) (hl : (apos.endLine == pos.line) = true := by rfl) (hfew : decide (es.length < 30) = true := by rfl) :
    ImplE c n sx (.Call (.Attribute o m apos) es [] pos) (lmethM fo fs F) := by
  intro p hsx hr W0 W st s hle I b st' e Q E hQ
  obtain ⟨x, st1, e1, e2⟩ := bd_some e
  obtain ⟨u, st1', e3, e4⟩ := bd_some e2
  obtain ⟨ys, st2, e5, e6⟩ := bd_some e4
  rw [arm_eval_Call, hb]
  refine wpAny_bind (h0 p hsx hr W W st s (Le.refl _) I x st1 e1 _ E fun W1 ov s1 x1 I1 r1 => wpAny_bind (wpAny_standAt ?_))
  unfold chkL at e3
  split at e3
  · rename_i xs q
    cases e3
    obtain ⟨xs, st9⟩ := xs
    obtain ⟨_, a, vs, m0, rfl, ho, _⟩ := items_at I1 r1 q
    have hform : methodCallForm (es.length + ([] : List Keyword).length) (backTo pos (starEach es p.env)) (backToKw pos (keywordEach [] p.env)) = true := by
      unfold methodCallForm
      have h1 : (backTo pos (starEach es p.env)).all (fun x => !x.1) = true := by
        have := any_false (env := p.env) (pos := pos) hp
        rw [List.all_eq_not_any_not]; simpa using this
      rw [h1]
      show (true && true && decide (es.length + 0 + 0 < 30)) = true
      simpa using hfew
    have hpos : methodCallPos true o p.env apos pos = pure pos := by unfold methodCallPos; simp [hl]
    unfold methodCall
    rw [hform]
    refine wpAny_bind (wpAny_holding ?_)
    show wpAny _ _ (getMethod (.ref a) m _) _ _ _
    refine getMethod_builtin ⟨_, ho, rfl⟩ PySem.F.plainAttrs_list slot hty (fun a' e => by cases e; exact ⟨_, ho, rfl⟩) ?_
    refine wpAny_bind (wpAny_of_eq hpos ?_)
    refine Calls.callWith_builtin (any_false hp) (evalArgs_row hp ?_)
    refine h1 p hsx hr W1 pos W1 st1 s1 (Le.refl _) I1 ys st2 e5 _ E fun W2 ws s2 x2 I2 r2 => ?_
    exact h2 p hr W2 _ _ _ _ (r1.mono x2.le) r2 W2 st2 s2 (Le.refl _) I2 b st' e6 Q E fun W3 v s3 x3 I3 r3 => hQ W3 v s3 ((x1.trans x2).trans x3) I3 r3
  · cases e3

theorem upd_list {h : Heap} {a : Addr} {its : Array Value} {k : Nat} {f : Array Value → Array Value} (e : h.get? a = some (listOf its k)) : ∃ m, (h.update a (Obj.mapSeq f)).get? a = some (listOf (f its) m) :=
  ⟨_, Heap.get?_update_self _ e rfl⟩

def appendM : AV → List AV → Cm AV := fun x ys st => match x, ys with
  | .lob k, [y] => (match getL1 k st.lst with
      | some xs => if xs.length ≤ 100000 then some (.none, { st with lst := putL1 k (xs ++ [y]) st.lst }) else .none
      | .none => .none)
  | _, _ => .none
theorem append_ok : OkMeth c n "list.append" appendM := by
  intro p hr W0 o x vs xs ho hvs W st s hle I b st' e Q E hQ
  cases ho.mono hle with
  | lob k hk =>
    cases hvs.mono hle with
    | nil => cases e
    | cons hy hr' =>
      cases hr' with
      | cons _ _ => cases e
      | nil =>
        simp only [appendM] at e
        split at e
        · rename_i zs hz
          split at e
          · rename_i hsz
            cases e
            obtain ⟨_, _, us, m, h3, h4⟩ := I.hr.lobAt hz
            have hl := h4.length
            refine call_meets PySem.F.slot_list_append ⟨_, h3, rfl⟩ PySem.F.entry_list_append (PySem.F.args_list_append_2 _ _) (list_append _ us.toArray m _ (by rw [List.size_toArray, sizeLine_eq]; omega)) ⟨h3, ?_⟩
            obtain ⟨m', e'⟩ := upd_list (f := fun z => z.push _) h3
            rw [List.push_toArray] at e'
            obtain ⟨I', x'⟩ := lob_change (tk := s.toks) I hz e' (Heap.SameBut.update ..) (h4.append (.one hy))
            exact hQ W _ _ x' I' .none
          · cases e
        · cases e
  | _ => cases e

def extendM : AV → List AV → Cm AV := fun x ys st => match x, ys with
  | .lob k, [y] => (match getL1 k st.lst, itemsM y st with
      | some xs, some (zs, _) => if xs.length + zs.length ≤ 100000 then some (.none, { st with lst := putL1 k (xs ++ zs) st.lst }) else .none
      | _, _ => .none)
  | _, _ => .none
theorem extend_ok : OkMeth c n "list.extend" extendM := by
  intro p hr W0 o x vs xs ho hvs W st s hle I b st' e Q E hQ
  cases ho.mono hle with
  | lob k hk =>
    cases hvs.mono hle with
    | nil => cases e
    | cons hy hr' =>
      cases hr' with
      | cons _ _ => cases e
      | nil =>
        simp only [extendM] at e
        split at e
        · rename_i zs ws st2 hz hw
          split at e
          · rename_i hsz
            cases e
            obtain ⟨_, _, us, m, h3, h4⟩ := I.hr.lobAt hz
            obtain ⟨_, a, ts, m2, rfl, h5, h6⟩ := items_at I hy hw
            have hl := h4.length
            have hl2 := h6.length
            have hs' : us.toArray.size + ts.toArray.size ≤ sizeLine := by rw [List.size_toArray, List.size_toArray, sizeLine_eq]; omega
            refine call_meets PySem.F.slot_list_extend ⟨_, h3, rfl⟩ PySem.F.entry_list_extend (PySem.F.args_list_extend_2 _ _) (AutoSeq1.list_extend_list_list_0 _ us.toArray m a ts.toArray m2 (extend_door hs') (Nat.le_trans (Nat.le_add_right _ _) hs') (Nat.le_succ_of_le hs')) ⟨h3, h5, ?_⟩
            obtain ⟨m', e'⟩ := upd_list (f := fun z => z ++ ts.toArray) h3
            rw [show us.toArray ++ ts.toArray = (us ++ ts).toArray from by simp] at e'
            obtain ⟨I', x'⟩ := lob_change (tk := s.toks) I hz e' (Heap.SameBut.update ..) (h4.append h6)
            exact hQ W _ _ x' I' .none
          · cases e
        · cases e
  | _ => cases e

theorem erase_arr (us : List Value) (k : Nat) : us.toArray.eraseIdxIfInBounds k = (us.eraseIdx k).toArray := by
  unfold Array.eraseIdxIfInBounds
  split
  · apply Array.toList_inj.mp
    rw [Array.toList_eraseIdx]
  · rename_i h
    rw [List.size_toArray] at h
    rw [List.eraseIdx_of_length_le (by omega)]

/-- pop() and pop(i) -/
def popM : AV → List AV → Cm AV := fun x ys st => match x, ys with
  | .lob k, [] => (match getL1 k st.lst with
      | some xs => (match xs[xs.length - 1]? with
          | some y => if xs.length ≤ 100000 then some (y, { st with lst := putL1 k (xs.eraseIdx (xs.length - 1)) st.lst }) else .none
          | .none => .none)
      | .none => .none)
  | .lob k, [.int i] => (match getL1 k st.lst with
      | some xs => if 0 ≤ i then (match xs[i.toNat]? with
          | some y => if xs.length ≤ 100000 then some (y, { st with lst := putL1 k (xs.eraseIdx i.toNat) st.lst }) else .none
          | .none => .none) else .none
      | .none => .none)
  | _, _ => .none
theorem pop_ok : OkMeth c n "list.pop" popM := by
  intro p hr W0 o x vs xs ho hvs W st s hle I b st' e Q E hQ
  cases ho.mono hle with
  | lob k hk =>
    cases hvs.mono hle with
    | nil =>
      simp only [popM] at e
      split at e
      · rename_i zs hz
        split at e
        · rename_i y hy
          split at e
          · rename_i hsz
            cases e
            obtain ⟨_, _, us, m, h3, h4⟩ := I.hr.lobAt hz
            have hl := h4.length
            obtain ⟨w, hw, rw'⟩ := h4.get hy
            refine call_meets PySem.F.slot_list_pop ⟨_, h3, rfl⟩ PySem.F.entry_list_pop (PySem.F.args_list_pop_1 _) (MeetsSeq.list_pop_last _ us.toArray m w (by rw [List.size_toArray, hl, List.getElem?_toArray]; exact hw) (by rw [List.size_toArray, sizeLine_eq]; omega)) ⟨h3, ?_⟩
            obtain ⟨m', e'⟩ := upd_list (f := fun z => z.eraseIdxIfInBounds (us.toArray.size - 1)) h3
            rw [erase_arr] at e'
            have r4 := h4.erase (us.toArray.size - 1)
            rw [show zs.eraseIdx (us.toArray.size - 1) = zs.eraseIdx (zs.length - 1) from by rw [List.size_toArray, hl]] at r4
            obtain ⟨I', x'⟩ := lob_change (tk := s.toks) I hz e' (Heap.SameBut.update ..) r4
            exact hQ W _ _ x' I' rw'
          · cases e
        · cases e
      · cases e
    | cons hy hr' =>
      cases hr' with
      | cons _ _ => cases hy <;> cases e
      | nil =>
        cases hy with
        | int i t =>
          simp only [popM] at e
          split at e
          · rename_i zs hz
            split at e
            · rename_i hi
              split at e
              · rename_i y hy
                split at e
                · rename_i hsz
                  cases e
                  obtain ⟨_, _, us, m, h3, h4⟩ := I.hr.lobAt hz
                  have hl := h4.length
                  obtain ⟨w, hw, rw'⟩ := h4.get hy
                  have hlt : i.toNat < zs.length := (List.getElem?_eq_some_iff.mp hy).1
                  refine call_meets PySem.F.slot_list_pop ⟨_, h3, rfl⟩ PySem.F.entry_list_pop (PySem.F.args_list_pop_2 _ _) (MeetsSeq.list_pop_at _ us.toArray m i t i.toNat w (by unfold Builtin.List.listFitsIndex; simp; omega) (by
                    unfold seqIndex?; rw [List.size_toArray, hl]; simp; omega) (by rw [List.getElem?_toArray]; exact hw) (by rw [List.size_toArray, sizeLine_eq]; omega)) ⟨h3, ?_⟩
                  obtain ⟨m', e'⟩ := upd_list (f := fun z => z.eraseIdxIfInBounds i.toNat) h3
                  rw [erase_arr] at e'
                  obtain ⟨I', x'⟩ := lob_change (tk := s.toks) I hz e' (Heap.SameBut.update ..) (h4.erase _)
                  exact hQ W _ _ x' I' rw'
                · cases e
              · cases e
            · cases e
          · cases e
        | _ => cases e
  | _ => cases hvs.mono hle with
    | nil => cases e
    | cons hy hr' => cases hr' <;> cases hy <;> cases e

end
end Mine

namespace Mine

section
variable {c : Cx} {n : Nat} {sx : Sx}

/-! items -/
def idxM (xs : List AV) (i : Int) : Option AV := if 0 ≤ i then xs[i.toNat]? else if 0 ≤ i + xs.length then xs[(i + xs.length).toNat]? else .none
def getItemM : AV → AV → Cm AV := fun o i st => match i with
  | .int i => (match o with
    | .tup xs => if xs.length ≤ 100000 then (match idxM xs i with | some v => some (v, st) | .none => .none) else .none
    | o => (match itemsM o st with
      | some (xs, _) => if xs.length ≤ 100000 then (match idxM xs i with | some v => some (v, st) | .none => .none) else .none
      | .none => .none))
  | _ => .none

theorem idx_seq {xs : List AV} {i : Int} {v : AV} (h : idxM xs i = some v) : ∃ j, seqIndex? i xs.length = some j ∧ xs[j]? = some v ∧ -(xs.length : Int) ≤ i ∧ i < xs.length := by
  unfold idxM at h
  split at h
  · rename_i h0
    have hlt : i.toNat < xs.length := (List.getElem?_eq_some_iff.mp h).1
    refine ⟨i.toNat, ?_, h, by omega, by omega⟩
    unfold seqIndex?
    simp only [show ¬ i < 0 from by omega, if_false]
    rw [if_pos (by simp; omega)]
  · rename_i h0
    split at h
    · rename_i h1
      have hlt : (i + xs.length).toNat < xs.length := (List.getElem?_eq_some_iff.mp h).1
      refine ⟨(i + xs.length).toNat, ?_, h, by omega, by omega⟩
      unfold seqIndex?
      simp only [show i < 0 from by omega, if_true]
      rw [if_pos (by simp; omega)]
    · cases h

theorem getList_wp {A : Around} {E : Value → Shared → Prop} {s : Shared} {W : Wd} {a : Addr} {vs : List Value} {m : Nat} {xs : List AV} {i : Int} {t : Tok} {v : AV} {Q : Value → Shared → Prop} (h : s.heap.get? a = some (listOf vs.toArray m)) (hv : VRs W vs xs) (hi : idxM xs i = some v) (hsz : xs.length ≤ 100000)
    (hQ : ∀ val, VR W val v → Q val s) : wpAny (model c.prog c.w) A (getItem (.ref a) (.int i t)) Q E s := by
  have hl := hv.length
  have L : s.heap.IsList a vs.toArray := ⟨_, h, rfl, _, rfl⟩
  unfold idxM at hi
  split at hi
  · rename_i h0
    obtain ⟨w, hw, r⟩ := hv.get hi
    have hlt : i.toNat < xs.length := (List.getElem?_eq_some_iff.mp hi).1
    exact wpAny_getItem_list L h0 (by omega) (by rw [List.getElem?_toArray]; exact hw) (hQ w r)
  · rename_i h0
    split at hi
    · rename_i h1
      obtain ⟨w, hw, r⟩ := hv.get hi
      refine wpAny_getItem_list_neg L (by omega) (by rw [List.size_toArray]; omega) (by omega) ?_ (hQ w r)
      rw [List.size_toArray, List.getElem?_toArray, hl]; exact hw
    · cases hi

theorem getItem_ok {p : Pl} {value slice : Expr} {W0 : Wd} {o i : Value} {x y : AV} (ho : VR W0 o x) (hi : VR W0 i y) (hs : ∀ o i, subscripted slice false o i = operate [o, i] (getItem o i)) : Ok c p W0 (subscriptTail value slice o i) VR (getItemM x y) := by
  intro W st s hle I b st' e Q E hQ
  cases hi with
  | int i t =>
    have lists : ∀ (e : (match itemsM x st with
      | some (xs, _) => if xs.length ≤ 100000 then (match idxM xs i with | some v => some (v, st) | .none => .none) else .none
      | .none => .none) = some (b, st')), wpAny (model c.prog c.w) p.A (subscriptTail value slice o (.int i t)) Q E s := by
      intro e
      split at e
      · rename_i xs q he
        split at e
        · rename_i hsz
          split at e
          · rename_i v hv
            cases e
            obtain ⟨_, a, vs, m, rfl, h3, h4⟩ := items_at I (ho.mono hle) he
            refine tail_any (T := "list") ⟨_, h3, rfl⟩ slot_list_getitem.lookup (getList_wp h3 h4 hv hsz fun val r => ?_) (hs _ _)
            exact hQ W val s (Ext.refl ..) I r
          · cases e
        · cases e
      · cases e
    cases ho.mono hle with
    | tup h1 t1 t2 h2 =>
      simp only [getItemM] at e
      split at e
      · rename_i hsz
        split at e
        · rename_i v hv
          cases e
          obtain ⟨j, hj, hx, q1, q2⟩ := idx_seq hv
          obtain ⟨w, hw, r⟩ := h2.get hx
          refine tail_any (T := "tuple") ⟨_, I.hr.frz _ _ h1, t1⟩ slot_tuple_getitem.lookup (getItem_tuple (I.hr.isTuple h1 t1 t2) (by omega) (by omega) (by rw [List.size_toArray, h2.length]; exact hj) (by rw [List.getElem?_toArray]; exact hw) ?_) (hs _ _)
          exact hQ W w s (Ext.refl ..) I r
        · cases e
      · cases e
    | _ => exact lists e
  | _ => cases e

def notSlice : Expr → Bool
  | .Slice .. => false
  | _ => true
theorem sub_plain {slice : Expr} (h : notSlice slice = true) (o i : Value) : subscripted slice false o i = operate [o, i] (getItem o i) := by
  cases slice <;> first | rfl | cases h

theorem ImplE.item {value slice : Expr} {pos : Pos} {f g : Cm AV} (h1 : ImplE c n sx value f) (h2 : ImplE c n sx slice g) (hs : notSlice slice = true := by rfl) : ImplE c n sx (.Subscript value slice pos) (bin2 f g getItemM) := by
  intro p hsx hr W0 W st s hle I b st' e Q E hQ
  obtain ⟨x, st1, e1, e2⟩ := bd_some e
  obtain ⟨y, st2, e3, e4⟩ := bd_some e2
  refine Subscript_ (h1 p hsx hr W W st s (Le.refl _) I x st1 e1 _ E fun W1 a s1 x1 I1 r1 => ?_)
  refine h2 p hsx hr W1 W1 st1 s1 (Le.refl _) I1 y st2 e3 _ E fun W2 vb s2 x2 I2 r2 => ?_
  exact getItem_ok (r1.mono x2.le) r2 (sub_plain hs) W2 st2 s2 (Le.refl _) I2 b st' e4 Q E fun W3 v s3 x3 I3 r3 => hQ W3 v s3 ((x1.trans x2).trans x3) I3 r3

/-! stores into lists -/
def setItemM : AV → AV → AV → Cm Unit := fun o i v st => match i with
  | .int i => (match o with
    | .lob k => (match getL1 k st.lst with
      | some xs => if 0 ≤ i ∧ i < xs.length ∧ xs.length ≤ 100000 then some ((), { st with lst := putL1 k (xs.set i.toNat v) st.lst }) else .none
      | .none => .none)
    | _ => .none)
  | _ => .none

/-- a store into a plain list, the object told whole -/
theorem setList_wp {A : Around} {E : Value → Shared → Prop} {s : Shared} {a : Addr} {vs : List Value} {m : Nat} {k : Int} {t : Tok} {v : Value} {Q : Unit → Shared → Prop} (h : s.heap.get? a = some (listOf vs.toArray m)) (h0 : 0 ≤ k) (h1 : k < vs.length) (hz : vs.length ≤ 100000)
    (hQ : ∀ h' m', h'.get? a = some (listOf (vs.set k.toNat v).toArray m') → Heap.SameBut a s.heap h' → Q () { s with heap := h' }) : wpAny (model c.prog c.w) A (setItem (.ref a) (.int k t) v) Q E s := by
  have L : s.heap.IsList a vs.toArray := ⟨_, h, rfl, _, rfl⟩
  have hfit : Builtin.List.listFitsIndex k = true := fitsIndex_of h0 (by omega)
  clear hz
  unfold setItem
  refine wpAny_holding (wpAny_bind (wpAny_sequenceKey L.typeIs (by decide) ?_))
  refine wpAny_bind (wpAny_callSpecial?_slot (name := Str.ofString "__setitem__") L.typeIs slot_list_setitem (wpAny_call_entry slot_list_setitem L.typeIs entry_list_setitem ?_ (args_list_setitem _ _ _)))
  show wpAny _ _ (Builtin.List.listSubscript? (.int k t) >>= _) _ _ s
  refine wpAny_bind (wpAny_listSubscript_int hfit ?_)
  clear hfit
  obtain ⟨j, rfl⟩ := Int.eq_ofNat_of_zero_le h0
  have hj : j < vs.toArray.size := by rw [List.size_toArray]; omega
  show wpAny _ _ ((seqItemAt a j >>= fun r => pure (r.map (j, ·))) >>= _) _ _ s
  refine wpAny_bind (wpAny_bind (wpAny_seqItemAt h rfl (wpAny_pure ?_)))
  rw [Array.getElem?_eq_getElem hj]
  show wpAny _ _ (setSeqItemAt a j v >>= _) _ _ s
  obtain ⟨m', e'⟩ := upd_list (f := fun z => z.setIfInBounds j v) h
  rw [List.setIfInBounds_toArray] at e'
  refine wpAny_bind (wpAny_setSeqItemAt h rfl ?_)
  first
    | exact wpAny_pure ⟨.none, rfl, wpAny_pure (hQ _ m' e' (Heap.SameBut.update ..))⟩
    | exact wpAny_bind (wpAny_pure (wpAny_pure ⟨.none, rfl, wpAny_pure (hQ _ m' e' (Heap.SameBut.update ..))⟩))

theorem setItem_ok {p : Pl} {W0 : Wd} {o i val : Value} {x y v : AV} (ho : VR W0 o x) (hi : VR W0 i y) (hv : VR W0 val v) : Ok c p W0 (setItem o i val) (fun _ _ _ => True) (setItemM x y v) := by
  intro W st s hle I b st' e Q E hQ
  cases hi with
  | int i t =>
    cases ho.mono hle with
    | lob k hk =>
      simp only [setItemM] at e
      split at e
      · rename_i xs hx
        split at e
        · rename_i hb
          cases e
          obtain ⟨h0, h1, hsz⟩ := hb
          obtain ⟨_, _, us, m, ⟨h3, h4⟩⟩ := I.hr.lobAt hx
          have hl := h4.length
          refine setList_wp h3 h0 (by omega) (by omega) fun h' m' e' hs => ?_
          obtain ⟨I', x'⟩ := lob_change (tk := s.toks) I hx e' hs (h4.set (hv.mono hle) i.toNat)
          exact hQ W _ _ x' I' trivial
        · cases e
      · cases e
    | _ => cases e
  | _ => cases e

theorem ImplA.item {o i : Expr} {pos : Pos} {f g : Cm AV} (h1 : ImplE c n sx o f) (h2 : ImplE c n sx i g) : ImplA c n sx (.Subscript o i pos) (fun v => bd f fun x => bd g fun y => setItemM x y v) := by
  intro p hsx hr W0 val v hv W st s hle I b st' e Q E hQ
  obtain ⟨x, st1, e1, e2⟩ := bd_some e
  obtain ⟨y, st2, e3, e4⟩ := bd_some e2
  rw [arm_assign_Subscript]
  refine wpAny_bind (wpAny_holding (h1 p hsx hr W W st s (Le.refl _) I x st1 e1 _ E fun W1 ov s1 x1 I1 r1 => ?_))
  refine wpAny_bind (wpAny_holding (h2 p hsx hr W1 W1 st1 s1 (Le.refl _) I1 y st2 e3 _ E fun W2 iv s2 x2 I2 r2 => ?_))
  refine wpAny_bind (wpAny_standAt (wpAny_bind (wpAny_holding ?_)))
  refine setItem_ok (r1.mono x2.le) r2 ((hv.mono hle).mono (x1.le.trans x2.le)) W2 st2 s2 (Le.refl _) I2 b st' e4 _ E fun W3 u s3 x3 I3 r3 => ?_
  exact wpAny_release (hQ W3 _ s3 ((x1.trans x2).trans x3) I3 trivial)

/-! len, +, * of lists -/
def lenM : List AV → Cm AV := fun xs st => match xs with
  | [x] => (match itemsM x st with | some (ys, _) => if ys.length ≤ 100000 then some (.int ys.length, st) else .none | .none => .none)
  | _ => .none
theorem len_ok : OkCall c n (.builtin "len") lenM := by
  intro p hr W0 vs xs hv W st s hle I b st' e Q E hQ
  cases hv.mono hle with
  | nil => cases e
  | cons h1 h2 =>
    cases h2 with
    | cons _ _ => cases e
    | nil =>
      simp only [lenM] at e
      split at e
      · rename_i ys q he
        split at e
        · rename_i hsz
          cases e
          obtain ⟨_, a, us, m, rfl, h3, h4⟩ := items_at I h1 he
          have hl := h4.length
          refine len_list (items := us.toArray) ⟨_, h3, rfl, _, rfl⟩ (by rw [List.size_toArray]; omega) ?_
          rw [List.size_toArray, hl]
          exact hQ W _ _ ((Ext.refl ..).toks _) (I.toks _) (.int _ _)
        · cases e
      · cases e

/-- the second list of a sum: the script too -/
def items2M : AV → Cm (List AV) := fun x st => match x with
  | .lsb xs => some (xs, st)
  | x => itemsM x st
theorem items2_at {p : Pl} {W : Wd} {st st' : AS} {s : Shared} (I : Inv c p W st s) {v : Value} {x : AV} {xs : List AV} (hv : VR W v x) (e : items2M x st = some (xs, st')) :
    ∃ a vs, v = .ref a ∧ s.heap.IsList a (List.toArray vs) ∧ VRs W vs xs := by
  cases hv with
  | lsb h h1 h2 r => simp only [items2M] at e; cases e; exact ⟨_, _, rfl, ⟨_, I.hr.frz _ _ h, h1, _, h2⟩, r⟩
  | lst h r => obtain ⟨_, a, vs, m, e1, e2, e3⟩ := items_at I (.lst h r) e; exact ⟨a, vs, e1, ⟨_, e2, rfl, _, rfl⟩, e3⟩
  | lob k hk => obtain ⟨_, a, vs, m, e1, e2, e3⟩ := items_at I (.lob k hk) e; exact ⟨a, vs, e1, ⟨_, e2, rfl, _, rfl⟩, e3⟩
  | _ => simp only [items2M, itemsM] at e; cases e

def addLM : AV → AV → Cm AV := fun x y st => match itemsM x st, items2M y st with
  | some (xs, _), some (ys, _) => if xs.length + ys.length ≤ 100000 then some (.lst (xs ++ ys), st) else .none
  | _, _ => .none
theorem addL_ok : OkBin c n .Add addLM := by
  intro p hr W0 a b x y ha hb W st s hle I v st' e Q E hQ
  unfold addLM at e
  split at e
  · rename_i xs q1 ys q2 h1 h2
    split at e
    · rename_i hsz
      cases e
      obtain ⟨_, l, vs, m, rfl, h3, h4⟩ := items_at I (ha.mono hle) h1
      obtain ⟨l2, ws, rfl, ⟨⟨cls2, dd2, data2, sl2⟩, ho2, hc2, n2, hd2⟩, h6⟩ := items2_at I (hb.mono hle) h2
      simp only at hc2 hd2
      subst hc2 hd2
      have e1 : vs.toArray ++ ws.toArray = (vs ++ ws).toArray := by simp
      have l1 := h4.length
      have l2 := h6.length
      refine concat_meets ⟨_, h3, rfl⟩ ⟨_, ho2, rfl⟩ noFill_list_add seq_list_add PySem.F.slot_list_add PySem.F.entry_list_add (PySem.F.args_list_add_2 _ _) (list_addW _ _ vs.toArray ws.toArray m n2 .none dd2 #[] sl2 (by rw [List.size_toArray, List.size_toArray, sizeLine_eq]; omega)) ⟨h3, ho2, ?_⟩
      rw [e1]
      obtain ⟨I', x'⟩ := I.pushFrz (listOf (vs ++ ws).toArray 0) s.toks
      exact hQ _ _ _ x' I' (.lst (n := 0) Wd.set_self ((h4.append h6).mono x'.le))
    · cases e
  · cases e

def mulLM : AV → AV → Cm AV := fun x y st => match y with
  | .int k => (match itemsM x st with
    | some (xs, _) => if 0 ≤ k ∧ k ≤ 100000 ∧ xs.length * k.toNat ≤ 100000 then some (.lst (List.replicate k.toNat xs).flatten, st) else .none
    | .none => .none)
  | _ => .none
theorem VRs.flat {W : Wd} {vs : List Value} {xs : List AV} (h : VRs W vs xs) : ∀ k : Nat, VRs W (List.replicate k vs).flatten (List.replicate k xs).flatten
  | 0 => .nil
  | k + 1 => by rw [List.replicate_succ, List.replicate_succ, List.flatten_cons, List.flatten_cons]; exact h.append (h.flat k)
theorem mulL_ok : OkBin c n .Mult mulLM := by
  intro p hr W0 a b x y ha hb W st s hle I v st' e Q E hQ
  cases hb with
  | int k t =>
    simp only [mulLM] at e
    split at e
    · rename_i xs q1 h1
      split at e
      · rename_i hk
        cases e
        obtain ⟨_, l, vs, m, rfl, h3, h4⟩ := items_at I (ha.mono hle) h1
        have hl := h4.length
        obtain ⟨k0, k1, k2⟩ := hk
        have k3 : vs.length * k.toNat ≤ 100000 := by rw [hl]; exact k2
        have k4 : vs.toArray.size * k.toNat ≤ 100000 := by rw [List.size_toArray]; exact k3
        refine wpAny_binaryOp_repeat_ref (T := "list") (U := "int") (by decide) ⟨_, h3, rfl⟩ (fun s' => typeIs_int s' k t) noFill_list_mul F.fills_int_mul F.slot_int_rmul repeat_list F.slot_int_index.lookup
          (call_meets F.slot_int_rmul (typeIs_int s k t) F.entry_int_rmul (F.args_int_rmul_2 _ _) (int___rmul___int_list k t l vs.toArray m)
            ⟨h3, rfl, ⟨_, h3, rfl⟩, call_meets F.slot_list_mul ⟨_, h3, rfl⟩ F.entry_list_mul (F.args_list_mul_2 _ _)
              (AutoListH.list___mul___list_int_3 l vs.toArray m k t (by simp [Builtin.List.listFitsIndex]; omega) (by omega) (by simp [Builtin.List.listTooLong, sizeLine]; omega))
              ⟨h3, ?_⟩⟩)
        rw [listMul_foldl_if]
        obtain ⟨I', x'⟩ := I.pushFrz (listOf (List.replicate k.toNat vs).flatten.toArray 0) s.toks
        exact hQ _ _ _ x' I' (.lst (n := 0) Wd.set_self ((h4.flat _).mono x'.le))
      · cases e
    · cases e
  | _ => cases e

end
end Mine

namespace Mine

/-! equality, to a depth -/
def eqAll (f : AV → AV → Option Bool) : List AV → List AV → Option Bool
  | [], [] => some true
  | x :: xs, y :: ys => (match f x y with
      | some a => (match eqAll f xs ys with | some b => some (a && b) | .none => .none)
      | .none => .none)
  | _, _ => some false

def eqF (st : AS) : Nat → AV → AV → Option Bool
  | 0, _, _ => .none
  | d + 1, .none, y => (match y with | .none => some true | .str _ => some false | .int _ => some false | .bool _ => some false | _ => .none)
  | d + 1, .bool a, y => (match y with | .bool b => some (a == b) | .none => some false | .str _ => some false | _ => .none)
  | d + 1, .int a, y => (match y with | .int b => some (a == b) | .none => some false | .str _ => some false | _ => .none)
  | d + 1, .str a, y => (match y with | .str b => some (a == b) | .none => some false | .int _ => some false | .bool _ => some false | _ => .none)
  | d + 1, .bytes a, y => (match y with | .bytes b => some (a.toList == b.toList) | _ => .none)
  | d + 1, .tup xs, y => (match y with | .tup ys => if xs.length = ys.length then eqAll (eqF st d) xs ys else .none | _ => .none)
  | d + 1, x, y => (match itemsM x st, itemsM y st with
      | some (xs, _), some (ys, _) => if xs.length = ys.length then eqAll (eqF st d) xs ys else some false
      | _, _ => .none)

theorem eqAll_idx {W : Wd} {f : AV → AV → Option Bool} {P : Value → Value → Bool → Prop} (hf : ∀ v w x y b, VR W v x → VR W w y → f x y = some b → P v w b) : ∀ {vs ws : List Value} {xs ys : List AV} {b : Bool}, VRs W vs xs → VRs W ws ys → eqAll f xs ys = some b → vs.length = ws.length →
    ∃ e : Nat → Bool, (∀ j (h1 : j < vs.length) (h2 : j < ws.length), P vs[j] ws[j] (e j)) ∧ (List.range vs.length).all e = b
  | _, _, _, _, b, .nil, .nil, h, _ => by cases h; exact ⟨fun _ => true, fun j h1 _ => absurd h1 (Nat.not_lt_zero _), rfl⟩
  | _, _, _, _, b, .nil, .cons _ _, _, hl => by cases hl
  | _, _, _, _, b, .cons _ _, .nil, _, hl => by cases hl
  | v :: vs, w :: ws, x :: xs, y :: ys, b, .cons a1 r1, .cons a2 r2, h, hl => by
    simp only [eqAll] at h
    split at h
    · rename_i a ha
      split at h
      · rename_i b' hb
        cases h
        obtain ⟨e, h1, h2⟩ := eqAll_idx hf r1 r2 hb (by simpa using hl)
        refine ⟨fun j => match j with | 0 => a | j + 1 => e j, fun j q1 q2 => ?_, ?_⟩
        · cases j with
          | zero => exact hf v w x y a a1 a2 ha
          | succ j => exact h1 j (by simpa using q1) (by simpa using q2)
        · rw [List.length_cons, List.range_succ_eq_map, List.all_cons, List.all_map]
          rw [← h2]; rfl
      · cases h
    · cases h

section
variable {c : Cx} {n : Nat} {sx : Sx}
open PySem.SeqAt

theorem rc_bytes {A : Around} {s : Shared} {a b : Array UInt8} {t u : Tok} : RcAt A s (.bytes a t) (.bytes b u) (a.toList == b.toList) := fun prog w E Q h => eq_bytes h
theorem eq_bytesAt {A : Around} {s : Shared} {a b : Array UInt8} {t u : Tok} : EqAt A s (.bytes a t) (.bytes b u) (a.toList == b.toList) := fun prog w E Q h => by
  unfold eqBool
  refine wpAny_holding ?_
  refine wpAny_ite_split (fun hab => ?_) (fun _ => ?_)
  · have e : a = b := by have := eq_of_beq hab; injection this
    subst e
    exact wpAny_bind (wpAny_rule (wpAny_pure (by simpa using h)))
  · exact wpAny_bind (rc_bytes prog w E _ (wpAny_truthy_bool h))

theorem eqF_list {d : Nat} {st : AS} {x y : AV} {b : Bool} (hx : ∀ a, x ≠ .none ∧ x ≠ .bool a) (h1 : ∀ a, x ≠ .int a) (h2 : ∀ a, x ≠ .str a) (h3 : ∀ a, x ≠ .bytes a) (h4 : ∀ a, x ≠ .tup a) (e : eqF st (d + 1) x y = some b) :
    ∃ xs ys q1 q2, itemsM x st = some (xs, q1) ∧ itemsM y st = some (ys, q2) ∧ (if xs.length = ys.length then eqAll (eqF st d) xs ys else some false) = some b := by
  have : eqF st (d + 1) x y = (match itemsM x st, itemsM y st with
      | some (xs, _), some (ys, _) => if xs.length = ys.length then eqAll (eqF st d) xs ys else some false
      | _, _ => .none) := by
    cases x <;> first | rfl | exact absurd rfl (hx true).1 | exact absurd rfl (hx _).2 | exact absurd rfl (h1 _) | exact absurd rfl (h2 _) | exact absurd rfl (h3 _) | exact absurd rfl (h4 _)
  rw [this] at e
  split at e
  · rename_i xs q1 ys q2 e1 e2; exact ⟨xs, ys, q1, q2, e1, e2, e⟩
  · cases e

theorem eqAll_self {W : Wd} {f : AV → AV → Option Bool} (hf : ∀ v x y b, VR W v x → VR W v y → f x y = some b → b = true) : ∀ {vs : List Value} {xs ys : List AV} {b : Bool}, VRs W vs xs → VRs W vs ys → eqAll f xs ys = some b → b = true
  | _, _, _, b, .nil, .nil, h => by cases h; rfl
  | v :: vs, x :: xs, y :: ys, b, .cons a1 r1, .cons a2 r2, h => by
    simp only [eqAll] at h
    split at h
    · rename_i a ha
      split at h
      · rename_i b' hb
        cases h
        rw [hf v x y a a1 a2 ha, eqAll_self hf r1 r2 hb]; rfl
      · cases h
    · cases h

theorem eqF_lists_self {p : Pl} {W : Wd} {st : AS} {s : Shared} (I : Inv c p W st s) {d : Nat} (ih : ∀ v x y b, VR W v x → VR W v y → eqF st d x y = some b → b = true) {v : Value} {x y : AV} {xs ys : List AV} {q1 q2 : AS} {b : Bool} (hx : VR W v x) (hy : VR W v y)
    (e1 : itemsM x st = some (xs, q1)) (e2 : itemsM y st = some (ys, q2)) (h : (if xs.length = ys.length then eqAll (eqF st d) xs ys else some false) = some b) : b = true := by
  obtain ⟨_, l1, us, m1, rfl, g1, r1⟩ := items_at I hx e1
  obtain ⟨_, l2, ts, m2, e, g2, r2⟩ := items_at I hy e2
  cases e
  rw [g1] at g2
  cases g2
  rw [if_pos (by rw [← r1.length, ← r2.length])] at h
  exact eqAll_self ih r1 r2 h

theorem eqF_self {p : Pl} {W : Wd} {st : AS} {s : Shared} (I : Inv c p W st s) : ∀ (d : Nat) (v : Value) (x y : AV) (b : Bool), VR W v x → VR W v y → eqF st d x y = some b → b = true
  | 0, _, _, _, _, _, _, h => by cases h
  | d + 1, v, x, y, b, hx, hy, h => by
    have ih := eqF_self I d
    have lists : (∀ a, x ≠ .none ∧ x ≠ .bool a) → (∀ a, x ≠ .int a) → (∀ a, x ≠ .str a) → (∀ a, x ≠ .bytes a) → (∀ a, x ≠ .tup a) → b = true := fun h0 h1 h2 h3 h4 => by
      obtain ⟨xs, ys, q1, q2, e1, e2, e3⟩ := eqF_list h0 h1 h2 h3 h4 h
      exact eqF_lists_self I ih hx hy e1 e2 e3
    cases x with
    | none => cases hx; cases hy <;> simp_all [eqF]
    | bool a => cases hx; cases hy <;> simp_all [eqF]
    | int a => cases hx; cases hy <;> simp_all [eqF]
    | str a => cases hx; cases hy <;> simp_all [eqF]
    | bytes a => cases hx; cases hy <;> simp_all [eqF]
    | tup xs =>
      cases hx with
      | tup e1 t1 t2 r1 =>
        cases hy with
        | tup e2 t3 t4 r2 =>
          rw [e1] at e2
          cases e2
          rw [t2] at t4
          cases t4
          simp only [eqF] at h
          rw [if_pos (by rw [← r1.length, ← r2.length])] at h
          exact eqAll_self ih r1 r2 h
        | _ => simp [eqF] at h
    | _ => exact lists (fun _ => ⟨nofun, nofun⟩) nofun nofun nofun nofun

theorem eqF_ok {p : Pl} {W : Wd} {st : AS} {s : Shared} (I : Inv c p W st s) : ∀ (d : Nat) {A : Around} {v w : Value} {x y : AV} {b : Bool}, A.units + d < cLine → VR W v x → VR W w y → eqF st d x y = some b →
    EqAt A s v w b ∧ RcAt A s v w b ∧ RcNeAt A s v w (!b)
  | 0, _, _, _, _, _, _, _, _, _, h => by cases h
  | d + 1, A, v, w, x, y, b, hu, hv, hw, h => by
    have ih : ∀ v w x y b, VR W v x → VR W w y → eqF st d x y = some b → EqAt A.in1 s v w b := fun v w x y b h1 h2 h3 => (eqF_ok I d (A := A.in1) (by show A.units + 1 + d < cLine; omega) h1 h2 h3).1
    have hu' : A.units < cLine := by omega
    have lists : ∀ {xs ys : List AV} {q1 q2 : AS} {b : Bool}, VR W v x → VR W w y → itemsM x st = some (xs, q1) → itemsM y st = some (ys, q2) → (if xs.length = ys.length then eqAll (eqF st d) xs ys else some false) = some b →
        EqAt A s v w b ∧ RcAt A s v w b ∧ RcNeAt A s v w (!b) := by
      intro xs ys q1 q2 b hv hw e1 e2 h
      have hself : v = w → b = true := fun q => by subst q; exact eqF_lists_self I (eqF_self I d) hv hw e1 e2 h
      obtain ⟨_, l1, us, m1, rfl, g1, r1⟩ := items_at I hv e1
      obtain ⟨_, l2, ts, m2, rfl, g2, r2⟩ := items_at I hw e2
      have L1 : s.heap.IsList l1 us.toArray := ⟨_, g1, rfl, _, rfl⟩
      have L2 : s.heap.IsList l2 ts.toArray := ⟨_, g2, rfl, _, rfl⟩
      split at h
      · rename_i hl
        have hl' : us.length = ts.length := by rw [r1.length, r2.length, hl]
        obtain ⟨e, he, hb⟩ := eqAll_idx ih r1 r2 h hl'
        have hsz : us.toArray.size = ts.toArray.size := by simp [hl']
        have he' : ∀ j (h1 : j < us.toArray.size) (h2 : j < ts.toArray.size), EqAt A.in1 s us.toArray[j] ts.toArray[j] (e j) := fun j h1 h2 => by
          rw [List.getElem_toArray, List.getElem_toArray]
          exact he j (by simpa using h1) (by simpa using h2)
        have R := RcAt.lists L1 L2 hsz hu' he'
        have N := RcNeAt.lists L1 L2 hsz hu' he'
        rw [List.size_toArray, hb] at R N
        refine ⟨?_, R, N⟩
        by_cases hne : l1 = l2
        · subst hne; rw [hself rfl]; exact EqAt.same _
        · exact EqAt.of_refs hne R
      · rename_i hl
        cases h
        have hsz : (us.toArray.size != ts.toArray.size) = true := by
          simp only [List.size_toArray, r1.length, r2.length, bne_iff_ne]; exact hl
        have hne : l1 ≠ l2 := fun q => by
          subst q; rw [g1] at g2; cases g2; simp at hsz
        exact ⟨EqAt.of_refs hne (RcAt.lists_lengths L1 L2 hsz hu'), RcAt.lists_lengths L1 L2 hsz hu', RcNeAt.lists_lengths L1 L2 hsz hu'⟩
    cases x with
    | none =>
      cases hv
      cases hw <;> simp only [eqF] at h <;> cases h
      · exact ⟨EqAt.same _, RcAt.none_none, RcNeAt.none_none⟩
      · exact ⟨EqAt.none_bool _, RcAt.none_bool _, RcNeAt.none_bool _⟩
      · exact ⟨EqAt.none_int _ _, RcAt.none_int _ _, RcNeAt.none_int _ _⟩
      · exact ⟨EqAt.none_str _ _, RcAt.none_str _ _, RcNeAt.none_str _ _⟩
    | bool a =>
      cases hv
      cases hw <;> simp only [eqF] at h <;> cases h
      · exact ⟨EqAt.bool_none _, RcAt.bool_none _, RcNeAt.bool_none _⟩
      · exact ⟨EqAt.bool_bool _ _, RcAt.bool_bool _ _, RcNeAt.bool_bool _ _⟩
      · exact ⟨EqAt.bool_str _ _ _, RcAt.bool_str _ _ _, RcNeAt.bool_str _ _ _⟩
    | int a =>
      cases hv
      cases hw <;> simp only [eqF] at h <;> cases h
      · exact ⟨EqAt.int_none _ _, RcAt.int_none _ _, RcNeAt.int_none _ _⟩
      · exact ⟨EqAt.int_int _ _ _ _, RcAt.int_int _ _ _ _, RcNeAt.int_int _ _ _ _⟩
      · exact ⟨EqAt.int_str _ _ _ _, RcAt.int_str _ _ _ _, RcNeAt.int_str _ _ _ _⟩
    | str a =>
      cases hv
      cases hw <;> simp only [eqF] at h <;> cases h
      · exact ⟨EqAt.str_none _ _, RcAt.str_none _ _, RcNeAt.str_none _ _⟩
      · exact ⟨EqAt.str_bool _ _ _, RcAt.str_bool _ _ _, RcNeAt.str_bool _ _ _⟩
      · exact ⟨EqAt.str_int _ _ _ _, RcAt.str_int _ _ _ _, RcNeAt.str_int _ _ _ _⟩
      · exact ⟨EqAt.str_str _ _ _ _, RcAt.str_str _ _ _ _, RcNeAt.str_str _ _ _ _⟩
    | bytes a =>
      cases hv
      cases hw <;> simp only [eqF] at h <;> cases h
      exact ⟨eq_bytesAt, rc_bytes, fun prog w E Q q => ne_bytes q⟩
    | tup xs =>
      have hself : v = w → b = true := fun q => by subst q; exact eqF_self I (d + 1) v _ _ b hv hw h
      cases hv with
      | @tup l1 _ us k1 _ e1 t1 t2 r1 =>
        cases hw with
        | @tup l2 _ ts k2 ys e2 t3 t4 r2 =>
          simp only [eqF] at h
          split at h
          · rename_i hl
            have hl' : us.length = ts.length := by rw [r1.length, r2.length, hl]
            obtain ⟨e, he, hb⟩ := eqAll_idx ih r1 r2 h hl'
            have he' : ∀ j (h1 : j < us.toArray.size) (h2 : j < ts.toArray.size), EqAt A.in1 s us.toArray[j] ts.toArray[j] (e j) := fun j h1 h2 => by
              rw [List.getElem_toArray, List.getElem_toArray]
              exact he j (by simpa using h1) (by simpa using h2)
            have R := RcAt.tuples (I.hr.isTuple e1 t1 t2) (I.hr.isTuple e2 t3 t4) hu' he'
            have N := RcNeAt.tuples (I.hr.isTuple e1 t1 t2) (I.hr.isTuple e2 t3 t4) hu' he'
            rw [List.size_toArray, List.size_toArray, ← hl', Nat.min_self, hb] at R N
            simp only [beq_self_eq_true, Bool.and_true] at R N
            refine ⟨?_, R, N⟩
            by_cases hne : l1 = l2
            · subst hne; rw [hself rfl]; exact EqAt.same _
            · exact EqAt.of_refs hne R
          · cases h
        | _ => simp [eqF] at h
    | _ =>
      obtain ⟨xs, ys, q1, q2, e1, e2, e3⟩ := eqF_list (e := h) (by intro a; constructor <;> intro q <;> cases q) (by intro a q; cases q) (by intro a q; cases q) (by intro a q; cases q) (by intro a q; cases q)
      exact lists hv hw e1 e2 e3

def eqM : AV → AV → Cm Bool := fun x y st => match eqF st 8 x y with
  | some b => some (b, st)
  | .none => .none
def neM : AV → AV → Cm Bool := fun x y st => match eqF st 8 x y with
  | some b => some (!b, st)
  | .none => .none
theorem eq_ok : OkCmp c n .Eq eqM := by
  intro p hr W0 a b x y ha hb W st s hle I r st' e Q E hQ
  unfold eqM at e
  split at e
  · rename_i bb h
    cases e
    exact (eqF_ok I 8 (by have := hr.units; omega) (ha.mono hle) (hb.mono hle) h).2.1 _ _ E Q (hQ W _ s (Ext.refl ..) I rfl)
  · cases e
theorem ne_ok : OkCmp c n .NotEq neM := by
  intro p hr W0 a b x y ha hb W st s hle I r st' e Q E hQ
  unfold neM at e
  split at e
  · rename_i bb h
    cases e
    exact (eqF_ok I 8 (by have := hr.units; omega) (ha.mono hle) (hb.mono hle) h).2.2 _ _ E Q (hQ W _ s (Ext.refl ..) I rfl)
  · cases e

end
end Mine

namespace Mine

section
variable {c : Cx} {n : Nat} {sx : Sx}

theorem ImplE.cbytes {x : List UInt8} {k : Nat} {pos : Pos} : ImplE c n sx (.Constant (.bytes x) k pos) (pu (.bytes x.toArray)) := by
  intro p _ _ W0 W st s hle I b st' e Q E hQ; cases e
  exact Constant_bytes (hQ W _ _ ((Ext.refl ..).toks _) (I.toks _) (.bytes _ _))

/-! + - // % -/
def addM : AV → AV → Cm AV := fun x y => match x with
  | .int a => (match y with | .int b => pu (.int (a + b)) | _ => no)
  | .str a => (match y with | .str b => if a.length + b.length ≤ 100000 then pu (.str (a ++ b)) else no | _ => no)
  | x => addLM x y
theorem add_ok : OkBin c n .Add addM := by
  intro p hr W0 a b x y ha hb W st s hle I v st' e Q E hQ
  have lists : addLM x y st = some (v, st') → wpAny (model c.prog c.w) p.A (binaryOp .Add a b) Q E s := fun e => addL_ok p hr W0 a b x y ha hb W st s hle I v st' e Q E hQ
  cases ha with
  | int i t =>
    cases hb with
    | int j u => cases e; exact P.add_int (hQ W _ _ ((Ext.refl ..).toks _) (I.toks _) (.int _ _))
    | _ => cases e
  | str i t =>
    cases hb with
    | str j u =>
      simp only [addM] at e
      split at e
      · rename_i hsz
        cases e
        exact PyProof.Rows.add_str (fun t' tk => hQ W _ _ ((Ext.refl ..).toks _) (I.toks _) (.str _ _)) (by rw [sizeLine_eq]; omega)
      · cases e
    | _ => cases e
  | _ => exact lists e
def subM : AV → AV → Cm AV := fun x y => match x with
  | .int a => (match y with | .int b => pu (.int (a - b)) | _ => no)
  | _ => no
theorem sub_ok : OkBin c n .Sub subM := by
  intro p hr W0 a b x y ha hb W st s hle I v st' e Q E hQ
  cases ha with
  | int i t =>
    cases hb with
    | int j u => cases e; exact P.sub_int (hQ W _ _ ((Ext.refl ..).toks _) (I.toks _) (.int _ _))
    | _ => cases e
  | _ => cases e
def modM : AV → AV → Cm AV := fun x y => match x with
  | .int a => (match y with | .int b => if 0 < b then pu (.int (a % b)) else no | _ => no)
  | _ => no
theorem mod_ok : OkBin c n .Mod modM := by
  intro p hr W0 a b x y ha hb W st s hle I v st' e Q E hQ
  cases ha with
  | int i t =>
    cases hb with
    | int j u =>
      simp only [modM] at e
      split at e
      · rename_i hj
        cases e
        refine mod_int' (by omega) ?_
        rw [Int.fmod_eq_emod_of_nonneg _ (by omega)]
        exact hQ W _ _ ((Ext.refl ..).toks _) (I.toks _) (.int _ _)
      · cases e
    | _ => cases e
  | _ => cases e
def divM : AV → AV → Cm AV := fun x y => match x with
  | .int a => (match y with | .int b => if 0 < b ∧ b < 1000000 then pu (.int (a / b)) else no | _ => no)
  | _ => no
theorem div_ok : OkBin c n .FloorDiv divM := by
  intro p hr W0 a b x y ha hb W st s hle I v st' e Q E hQ
  cases ha with
  | int i t =>
    cases hb with
    | int j u =>
      simp only [divM] at e
      split at e
      · rename_i hj
        cases e
        refine PyProof.Rows.floordiv_int (by omega) ?_ (.inl (PyProof.noPylong_small (by omega)))
        rw [Int.fdiv_eq_ediv_of_nonneg _ (by omega)]
        exact hQ W _ _ ((Ext.refl ..).toks _) (I.toks _) (.int _ _)
      · cases e
    | _ => cases e
  | _ => cases e

def negM (f : Cm AV) : Cm AV := bd f fun x => match x with
  | .int a => pu (.int (-a))
  | _ => no
theorem ImplE.neg {e : Expr} {pos : Pos} {f : Cm AV} (h : ImplE c n sx e f) : ImplE c n sx (.UnaryOp .USub e pos) (negM f) := by
  intro p hsx hr W0 W st s hle I b st' e Q E hQ
  obtain ⟨x, st1, e1, e2⟩ := bd_some e
  refine wpAny_UnaryOp (h p hsx hr W W st s (Le.refl _) I x st1 e1 _ E fun W1 v s1 x1 I1 r1 => ?_)
  cases r1 with
  | int i t => cases e2; exact P.neg_int (hQ W1 _ _ (x1.toks _) (I1.toks _) (.int _ _))
  | _ => cases e2

/-! < > is -/
def ltM : AV → AV → Cm Bool := fun x y => match x with
  | .int a => (match y with | .int b => pu (decide (a < b)) | _ => no)
  | _ => no
theorem lt_ok : OkCmp c n .Lt ltM := by
  intro p hr W0 a b x y ha hb W st s hle I v st' e Q E hQ
  cases ha with
  | int i t =>
    cases hb with
    | int j u => cases e; exact P.lt_int (hQ W _ _ (Ext.refl ..) I rfl)
    | _ => cases e
  | _ => cases e
def gtM : AV → AV → Cm Bool := fun x y => match x with
  | .int a => (match y with | .int b => pu (decide (a > b)) | _ => no)
  | _ => no
theorem gt_ok : OkCmp c n .Gt gtM := by
  intro p hr W0 a b x y ha hb W st s hle I v st' e Q E hQ
  cases ha with
  | int i t =>
    cases hb with
    | int j u => cases e; exact P.gt_int (hQ W _ _ (Ext.refl ..) I rfl)
    | _ => cases e
  | _ => cases e

def isF : AV → AV → Option Bool := fun x y => match y with
  | .none => (match x with | .none => some true | .val _ => .none | .unb => .none | _ => some false)
  | .ins j => (match x with | .ins k => some (k == j) | .none => some false | _ => .none)
  | .val (.type b) => (match x with | .val (.type a) => some (a == b) | _ => .none)
  | _ => .none
theorem isF_ok {p : Pl} {W : Wd} {st : AS} {s : Shared} (I : Inv c p W st s) {a b : Value} {x y : AV} {r : Bool} (ha : VR W a x) (hb : VR W b y) (e : isF x y = some r) {A : Around} {E : Value → Shared → Prop} :
    (∀ Q : Value → Shared → Prop, Q (.bool r) s → wpAny (model c.prog c.w) A (compareOp .Is a b) Q E s) ∧ (∀ Q : Value → Shared → Prop, Q (.bool (!r)) s → wpAny (model c.prog c.w) A (compareOp .IsNot a b) Q E s) := by
  cases hb with
  | none =>
    have z : (a == Value.none) = r := by
      cases ha <;> simp only [isF] at e <;> first | (cases e; rfl) | cases e
    exact ⟨fun Q h => is_none (z ▸ h), fun Q h => isNot_none (z ▸ h)⟩
  | ins j hj =>
    cases ha with
    | none =>
      cases e
      exact ⟨fun Q h => wpAny_is_other rfl (by intro q; cases q) h, fun Q h => wpAny_isNot_other rfl (by intro q; cases q) h⟩
    | ins k hk =>
      simp only [isF] at e
      cases e
      by_cases hkj : k = j
      · subst hkj
        simp only [beq_self_eq_true]
        exact ⟨fun Q h => wpAny_is_ref_self h, fun Q h => wpAny_isNot_ref_self h⟩
      · have hne : W.ia k ≠ W.ia j := fun q => by
          have r1 := (I.hr.iaR k hk).1
          rw [q, (I.hr.iaR j hj).1] at r1
          cases r1; exact hkj rfl
        have gk : ∃ i, st.ins[k]? = some i := ⟨_, List.getElem?_eq_getElem (by rw [← I.hr.ni]; exact hk)⟩
        have gj : ∃ i, st.ins[j]? = some i := ⟨_, List.getElem?_eq_getElem (by rw [← I.hr.ni]; exact hj)⟩
        obtain ⟨i1, g1⟩ := gk
        obtain ⟨i2, g2⟩ := gj
        obtain ⟨es1, m1, o1, _⟩ := I.hr.insA k i1 g1
        obtain ⟨es2, m2, o2, _⟩ := I.hr.insA j i2 g2
        have hf : (k == j) = false := by simpa using hkj
        rw [hf]
        exact ⟨fun Q h => wpAny_is_ref_other hne o1 o2 (by intro q; cases q) h, fun Q h => wpAny_isNot_ref_other hne o1 o2 (by intro q; cases q) h⟩
    | _ => cases e
  | val _ hv =>
    cases b with
    | type t =>
      cases ha with
      | val _ hv' =>
        cases a with
        | type u =>
          simp only [isF] at e
          cases e
          have z : (Value.type u == Value.type t) = (u == t) := by
            rw [Bool.eq_iff_iff, beq_iff_eq, beq_iff_eq]; exact ⟨fun q => by injection q, fun q => by rw [q]⟩
          exact ⟨fun Q h => wpAny_is_plain rfl (by rw [z]; exact h), fun Q h => wpAny_isNot_plain rfl (by rw [z]; exact h)⟩
        | _ => cases e
      | _ => cases e
    | _ => cases e
  | _ => cases e
def isM : AV → AV → Cm Bool := fun x y st => match isF x y with
  | some b => some (b, st)
  | .none => .none
def isNotM : AV → AV → Cm Bool := fun x y st => match isF x y with
  | some b => some (!b, st)
  | .none => .none
theorem is_ok : OkCmp c n .Is isM := by
  intro p hr W0 a b x y ha hb W st s hle I v st' e Q E hQ
  unfold isM at e
  split at e
  · rename_i r h; cases e
    exact (isF_ok I (ha.mono hle) (hb.mono hle) h).1 Q (hQ W _ s (Ext.refl ..) I rfl)
  · cases e
theorem isNot_ok : OkCmp c n .IsNot isNotM := by
  intro p hr W0 a b x y ha hb W st s hle I v st' e Q E hQ
  unfold isNotM at e
  split at e
  · rename_i r h; cases e
    exact (isF_ok I (ha.mono hle) (hb.mono hle) h).2 Q (hQ W _ s (Ext.refl ..) I rfl)
  · cases e

/-! slices of lists -/
def ImplP (c : Cx) (n : Nat) (sx : Sx) (e : Option Expr) (f : Cm (Option Int)) : Prop := ∀ p : Pl, p.sx = sx → Room n p.A → ∀ W0, Ok c p W0 (evalPart e p.env) (fun _ v k => IsPart v k) f
theorem ImplP.none : ImplP c n sx .none (pu .none) := by
  intro p _ _ W0 W st s hle I b st' e Q E hQ; cases e
  exact wpAny_pure (hQ W _ s (Ext.refl ..) I .none)
def partM (f : Cm AV) : Cm (Option Int) := bd f fun x => match x with
  | .int i => pu (some i)
  | _ => no
theorem ImplP.some {e : Expr} {f : Cm AV} (h : ImplE c n sx e f) : ImplP c n sx (.some e) (partM f) := by
  intro p hsx hr W0 W st s hle I b st' e Q E hQ
  obtain ⟨x, st1, e1, e2⟩ := bd_some e
  refine h p hsx hr W W st s (Le.refl _) I x st1 e1 _ E fun W1 v s1 x1 I1 r1 => ?_
  cases r1 with
  | int i t => cases e2; exact hQ W1 _ s1 x1 I1 (.int _ _)
  | _ => cases e2

def pickA {α : Type} (xs : List α) (lo hi st : Option Int) : List α := (sliceRange (sliceBounds lo hi st xs.length).1 (sliceBounds lo hi st xs.length).2.1 (sliceBounds lo hi st xs.length).2.2).filterMap (xs[·]?)
theorem VRs.pick {W : Wd} {vs : List Value} {xs : List AV} (h : VRs W vs xs) : ∀ l : List Nat, VRs W (l.filterMap (vs[·]?)) (l.filterMap (xs[·]?))
  | [] => .nil
  | i :: r => by
    rw [List.filterMap_cons, List.filterMap_cons]
    cases e : xs[i]? with
    | none =>
      have : vs[i]? = .none := by rw [List.getElem?_eq_none_iff] at e ⊢; rw [h.length]; exact e
      rw [this]; exact h.pick r
    | some x =>
      obtain ⟨v, e', q⟩ := h.get e
      rw [e']; exact .cons q (h.pick r)
theorem pick_len {α : Type} (xs : List α) (lo hi st : Option Int) : (pickA xs lo hi st).length ≤ xs.length := by
  have e := slicePick_size_le (Array.replicate xs.length Value.none) lo hi st
  unfold slicePick at e
  rw [List.size_toArray, Array.size_replicate] at e
  refine Nat.le_trans (Nat.le_of_eq ?_) e
  unfold pickA
  generalize sliceRange _ _ _ = l
  induction l with
  | nil => rfl
  | cons i r ih =>
    rw [List.filterMap_cons, List.filterMap_cons]
    by_cases hi : i < xs.length
    · have e1 : xs[i]? = some xs[i] := List.getElem?_eq_getElem hi
      have e2 : (Array.replicate xs.length Value.none)[i]? = some Value.none := by simp [hi]
      rw [e1, e2, List.length_cons, List.length_cons, ih]
    · have e1 : xs[i]? = .none := List.getElem?_eq_none (by omega)
      have e2 : (Array.replicate xs.length Value.none)[i]? = .none := by simp [hi]
      rw [e1, e2, ih]

def sliceM (fv : Cm AV) (fl fu fs : Cm (Option Int)) : Cm AV := bd fv fun x => bd fl fun lo => bd fu fun hi => bd fs fun st => fun s => match itemsM x s with
  | some (xs, _) => if xs.length ≤ 100000 ∧ st ≠ some 0 then some (.lst (pickA xs lo hi st), s) else .none
  | .none => .none

theorem ImplE.slice {value : Expr} {l u st : Option Expr} {p0 pos : Pos} {fv : Cm AV} {fl fu fs : Cm (Option Int)} (h0 : ImplE c n sx value fv) (h1 : ImplP c n sx l fl) (h2 : ImplP c n sx u fu) (h3 : ImplP c n sx st fs) :
    ImplE c n sx (.Subscript value (.Slice l u st p0) pos) (sliceM fv fl fu fs) := by
  intro p hsx hr W0 W sta s hle I b st' e Q E hQ
  obtain ⟨x, st1, e1, e⟩ := bd_some e
  obtain ⟨lo, st2, e2, e⟩ := bd_some e
  obtain ⟨hi, st3, e3, e⟩ := bd_some e
  obtain ⟨stp, st4, e4, e⟩ := bd_some e
  refine Subscript_ (h0 p hsx hr W W sta s (Le.refl _) I x st1 e1 _ E fun W1 o s1 x1 I1 r1 => ?_)
  refine wpAny_Slice (h1 p hsx hr W1 W1 st1 s1 (Le.refl _) I1 lo st2 e2 _ E fun W2 vl s2 x2 I2 r2 => ?_)
  refine h2 p hsx hr W2 W2 st2 s2 (Le.refl _) I2 hi st3 e3 _ E fun W3 vu s3 x3 I3 r3 => ?_
  refine h3 p hsx hr W3 W3 st3 s3 (Le.refl _) I3 stp st4 e4 _ E fun W4 vs s4 x4 I4 r4 => ?_
  have xx := ((x1.trans x2).trans x3).trans x4
  have r1' := r1.mono ((x2.le.trans x3.le).trans x4.le)
  split at e
  · rename_i xs q he
    split at e
    · rename_i hb
      cases e
      obtain ⟨_, a, us, m, rfl, g, r⟩ := items_at I4 r1' he
      have I5 : Inv c p W4 st' { s4 with heap := s4.heap.push { cls := .type "slice", data := .fields #[vl, vu, vs] } } := I4.keeps (fun _ _ e => Heap.get?_push_of_some _ e)
      have x5 : Ext p.Own W4 s4 W4 { s4 with heap := s4.heap.push { cls := .type "slice", data := .fields #[vl, vu, vs] } } := Ext.keeps _ _ (fun _ _ e => Heap.get?_push_of_some _ e) rfl rfl
      have hl := r.length
      have L : (s4.heap.push { cls := .type "slice", data := .fields #[vl, vu, vs] }).IsList a us.toArray := ⟨_, Heap.get?_push_of_some _ g, rfl, _, rfl⟩
      refine tail_any (T := "list") (ops := match st with | .none => [.ref s4.heap.objs.size, .ref a] | _ => [.ref a, .ref s4.heap.objs.size]) ⟨_, Heap.get?_push_of_some _ g, rfl⟩ slot_list_getitem.lookup (wpAny_getItem_list_slice L ⟨_, Heap.get?_push_size _ rfl, rfl, rfl⟩ r2 r3 r4 hb.2 ?_ (by rw [List.size_toArray, sizeLine_eq]; omega)) (by cases st <;> rfl)
      have eq1 : slicePick us.toArray lo hi stp = (pickA us lo hi stp).toArray := by
        unfold slicePick pickA; simp only [List.size_toArray, List.getElem?_toArray]
      rw [eq1]
      obtain ⟨I6, x6⟩ := I5.pushFrz (listOf (pickA us lo hi stp).toArray 0) s4.toks
      refine hQ _ _ _ ((xx.trans x5).trans x6) I6 (.lst (n := 0) Wd.set_self ?_)
      have rp := r.pick (sliceRange (sliceBounds lo hi stp xs.length).1 (sliceBounds lo hi stp xs.length).2.1 (sliceBounds lo hi stp xs.length).2.2)
      have : VRs W4 (pickA us lo hi stp) (pickA xs lo hi stp) := by unfold pickA; rw [hl]; exact rp
      exact this.mono x6.le
    · cases e
  · cases e

end
end Mine

namespace Mine

section
variable {c : Cx} {n : Nat} {sx : Sx}

/-! iterators -/
/-- nothing new, or one new tuple that will stand -/
def NewW (W : Wd) (h : Heap) (W' : Wd) (h' : Heap) : Prop := W' = W ∨ ∃ T o, h.get? T = .none ∧ h'.get? T = some o ∧ W' = W.set T (.frz o)

def goesU : Expr → Bool
  | .Tuple .. => true
  | _ => false
def goesT : Expr → Bool
  | .Name .. => true
  | .Tuple .. => true
  | _ => false

structure Itr (c : Cx) (p : Pl) (I : Addr) (wr : List Addr) (gt : Expr → Bool) {σ : Type} (nx : σ → AS → Option (Option (AV × σ))) (J : σ → Wd → AS → Heap → Prop) : Prop where
  frame : ∀ i W W' st st' s s', J i W st s.heap → Inv c p W st s → Ext p.Own W s W' s' → Inv c p W' st' s' → J i W' st' s'.heap
  wrOk : ∀ i W st h, J i W st h → ∀ b ∈ wr, W.role b = .oth ∧ ∃ o, h.get? b = some o
  next : ∀ i i' x W st s tgt, gt tgt = true → J i W st s.heap → Inv c p W st s → nx i st = some (some (x, i')) → ∀ (Q : Value → Shared → Prop) (E : Value → Shared → Prop),
    (∀ W' v h' tk, NewW W s.heap W' h' → VR W' v x → J i' W' st h' → (∀ b o, b ∉ wr → s.heap.get? b = some o → h'.get? b = some o) → Q v { s with heap := h', toks := tk }) →
    wpAny (model c.prog c.w) p.A (pyNext (.ref I)) (fun r s1 => match r with | .none => False | some v => wpAny (model c.prog c.w) p.A (letOwnedTupleGo tgt (.ref I) v) (fun _ s2 => Q v s2) E s1) E s
  stop : ∀ i W st s, J i W st s.heap → Inv c p W st s → nx i st = some .none → ∀ (Q : Shared → Prop) (E : Value → Shared → Prop),
    (∀ h' tk, (∀ b o, b ∉ wr → s.heap.get? b = some o → h'.get? b = some o) → Q { s with heap := h', toks := tk }) →
    wpAny (model c.prog c.w) p.A (pyNext (.ref I)) (fun r s1 => match r with | .none => Q s1 | some _ => False) E s
  self : ∀ i W st s, J i W st s.heap → ∀ (Q : Value → Shared → Prop) (E : Value → Shared → Prop), Q (.ref I) s → wpAny (model c.prog c.w) p.A (pyIter (.ref I)) Q E s

def forG {σ : Type} (nx : σ → AS → Option (Option (AV × σ))) (tgt : AV → Cm Unit) (body : Cm AF) : Nat → σ → Cm AF
  | 0, _ => no
  | m + 1, i => fun st => match nx i st with
    | .none => .none
    | some .none => some (.next, st)
    | some (some (x, i')) => (bd (tgt x) fun _ => thenM body (forG nx tgt body m i')) st

/-- addresses that the loop's own iterator writes: new since s0, of no part -/
theorem poke_wr {p : Pl} {W0 W : Wd} {st : AS} {s0 s : Shared} {h' : Heap} {tk : Nat} {wr : List Addr} (I0 : ∀ b ∈ wr, s0.heap.get? b = .none) (hb0 : ∀ b ∈ wr, c.h0.get? b = .none) (hL : ∀ b ∈ wr, b ≠ p.env.locals) (hC : ∀ b ∈ wr, ∀ y, p.env.cells.lookup y ≠ some b)
    (hrole : ∀ b ∈ wr, W.role b = .oth) (x : Ext p.Own W0 s0 W s) (I : Inv c p W st s) (k : ∀ b o, b ∉ wr → s.heap.get? b = some o → h'.get? b = some o) :
    Inv c p W st { s with heap := h', toks := tk } ∧ Ext p.Own W0 s0 W { s with heap := h', toks := tk } := by
  refine ⟨⟨I.hr.grow fun b o hb e => k b o (fun q => ?_) e, I.fr.grow fun b o hb e => k b o (fun q => ?_) e⟩, ⟨x.le, fun b o e => ?_, x.oth, fun b o hm hn e => k b o (fun q => ?_) (x.kept b o hm hn e), x.gens, x.os⟩⟩
  · rcases hb with ⟨o', hb⟩ | hb
    · rw [hb0 b q] at hb; cases hb
    · exact hb (hrole b q)
  · rcases hb with hb | ⟨y, hb⟩
    · exact hL b q hb
    · exact hC b q y hb
  · obtain ⟨o1, e1⟩ := x.alive b o e
    exact ⟨o1, k b o1 (fun q => by rw [I0 b q] at e; cases e) e1⟩
  · rw [I0 b q] at e; cases e

theorem newW_ok {p : Pl} {W0 W W' : Wd} {st : AS} {s0 s : Shared} {h' : Heap} {tk : Nat} (hN : NewW W s.heap W' h') (Iold : Inv c p W st s) (I : Inv c p W st { s with heap := h', toks := tk }) (x0 : Ext p.Own W0 s0 W s) (x : Ext p.Own W0 s0 W { s with heap := h', toks := tk }) :
    Inv c p W' st { s with heap := h', toks := tk } ∧ Ext p.Own W0 s0 W' { s with heap := h', toks := tk } ∧ Le W W' := by
  rcases hN with rfl | ⟨T, o, hT, hT', rfl⟩
  · exact ⟨I, x, Le.refl _⟩
  · have hr := Iold.hr.oth_of_none hT
    refine ⟨I.newFrz hr hT' (fun q => ?_) (fun y q => ?_), ⟨x.le.trans (Le.set hr), x.alive, fun b o e z => ?_, x.kept, x.gens, x.os⟩, Le.set hr⟩
    · obtain ⟨ml, ⟨o1, es, ep, ho, _⟩, _⟩ := Iold.fr.ns
      rw [← q, hT] at ho; cases ho
    · obtain ⟨v', o1, ho, _⟩ := Iold.fr.cells y T q
      rw [hT] at ho; cases ho
    · rw [Wd.set_other]
      · exact x.oth b o e z
      · intro q
        obtain ⟨o1, e1⟩ := x0.alive b o e
        rw [q, hT] at e1; cases e1

theorem loop_ok {p : Pl} {I : Addr} {wr : List Addr} {gt : Expr → Bool} {σ : Type} {nx : σ → AS → Option (Option (AV × σ))} {J : σ → Wd → AS → Heap → Prop} (T : Itr c p I wr gt nx J) (hr : Room n p.A) {target : Expr} {body : List Stmt} {tgt : AV → Cm Unit} {fb : Cm AF}
    (hg : gt target = true) (h1 : ImplA c n p.sx target tgt) (h2 : ImplS c n p.sx body fb) {W0 : Wd} {s0 : Shared} (I0 : ∀ b ∈ wr, s0.heap.get? b = .none) (hb0 : ∀ b ∈ wr, c.h0.get? b = .none) (hL : ∀ b ∈ wr, b ≠ p.env.locals) (hC : ∀ b ∈ wr, ∀ y, p.env.cells.lookup y ≠ some b)
    {W : Wd} {st : AS} {s : Shared} (x : Ext p.Own W0 s0 W s) (Iv : Inv c p W st s) {m : Nat} {i : σ} (j : J i W st s.heap) {r : AF} {st' : AS} (e : forG nx tgt fb m i st = some (r, st')) {R : Result → Shared → Prop}
    (hR : ∀ W' fl s', Ext p.Own W0 s0 W' s' → Inv c p W' st' s' → FlowR W' fl r → R (.ok fl) s') : codeAny (model c.prog c.w) p.A (.forLoop target (.ref I) body [] p.env) R s := by
  refine codeAny_forLoop_any (fun k s' => ∃ W' st1 i', Ext p.Own W0 s0 W' s' ∧ Inv c p W' st1 s' ∧ J i' W' st1 s'.heap ∧ forG nx tgt fb k i' st1 = some (r, st')) ?_ m ⟨W, st, i, x, Iv, j, e⟩
  rintro k s1 ⟨W1, st1, i1, x1, Iv1, j1, e1⟩
  cases k with
  | zero => cases e1
  | succ k =>
    simp only [forG] at e1
    split at e1
    · cases e1
    · rename_i hnx
      cases e1
      refine wpAny_noRaise (wpAny_mono (T.stop i1 W1 st' s1 j1 Iv1 hnx (fun s2 => R (.ok .next) s2) (fun _ _ => False) fun h' tk hk => ?_) (fun q s2 hq => ?_) fun _ _ q => q)
      · obtain ⟨I2, x2⟩ := poke_wr (tk := tk) I0 hb0 hL hC (fun b hb => (T.wrOk i1 W1 st' s1.heap j1 b hb).1) x1 Iv1 hk
        exact hR W1 _ _ x2 I2 .next
      · cases q with
        | none => exact wpAny_execs_nil hq
        | some => exact hq.elim
    · rename_i xv i2 hnx
      obtain ⟨u, st2, e2, e3⟩ := bd_some e1
      obtain ⟨fr, st3, e4, e5⟩ := bd_some e3
      refine wpAny_noRaise (wpAny_mono (T.next i1 i2 xv W1 st1 s1 target hg j1 Iv1 hnx (fun v s2 => wpAny (model c.prog c.w) p.A (assign target p.env v) (fun _ s3 => wpAny (model c.prog c.w) p.A (execs body p.env) (fun f s4 => match f with
            | .next | .cont => ∃ m, m < k + 1 ∧ ∃ W' st1 i', Ext p.Own W0 s0 W' s4 ∧ Inv c p W' st1 s4 ∧ J i' W' st1 s4.heap ∧ forG nx tgt fb m i' st1 = some (r, st')
            | .brk => R (.ok .next) s4
            | .ret v => R (.ok (.ret v)) s4) (fun _ _ => False) s3) (fun _ _ => False) s2) (fun _ _ => False) fun W2 v h' tk hN rv j2 hk => ?_) (fun q s2 hq => ?_) fun _ _ q => q)
      · obtain ⟨Ia, xa⟩ := poke_wr (tk := tk) I0 hb0 hL hC (fun b hb => (T.wrOk i1 W1 st1 s1.heap j1 b hb).1) x1 Iv1 hk
        obtain ⟨I2, x2, le2⟩ := newW_ok hN Iv1 Ia x1 xa
        refine h1 p rfl hr W2 v xv rv W2 st1 _ (Le.refl _) I2 u st2 e2 _ _ fun W3 _ s3 x3 I3 _ => ?_
        have j3 := T.frame i2 W2 W3 st1 st2 { s1 with heap := h', toks := tk } s3 j2 I2 x3 I3
        refine h2 p rfl hr W3 W3 st2 s3 (Le.refl _) I3 fr st3 e4 _ _ fun W4 fl s4 x4 I4 r4 => ?_
        have j4 := T.frame i2 W3 W4 st2 st3 s3 s4 j3 I3 x4 I4
        cases r4 with
        | next => exact ⟨k, Nat.lt_succ_self _, W4, st3, i2, (x2.trans x3).trans x4, I4, j4, e5⟩
        | ret rv' => cases e5; exact hR W4 _ s4 ((x2.trans x3).trans x4) I4 (.ret rv')
      · cases q with
        | none => exact hq.elim
        | some v => exact wpAny_mono hq (fun _ s3 z => wpAny_noRaise (wpAny_mono z (fun _ s4 y => wpAny_noRaise y) fun _ _ q => q)) fun _ _ q => q.elim

/-- what «for» goes over: the iterator behind the expression -/
def ImplI (c : Cx) (n : Nat) (sx : Sx) (e : Expr) (gt : Expr → Bool) {σ : Type} (f : Cm σ) (nx : σ → AS → Option (Option (AV × σ))) : Prop :=
  ∀ p : Pl, p.sx = sx → Room n p.A → ∀ W st s, Inv c p W st s → ∀ i st', f st = some (i, st') → ∀ (Q : Value → Shared → Prop) (E : Value → Shared → Prop),
    (∀ W' s' I wr J, Ext p.Own W s W' s' → Inv c p W' st' s' → Itr c p I wr gt nx J → J i W' st' s'.heap → (∀ b ∈ wr, s.heap.get? b = .none) → Q (.ref I) s') →
    wpAny (model c.prog c.w) p.A (eval e p.env) (fun x s1 => wpAny (model c.prog c.w) p.A (pyIter x) Q E s1) E s

/-- the fuel: the items and one more -/
def forM' {σ : Type} (f : Cm σ) (size : σ → AS → Nat) (nx : σ → AS → Option (Option (AV × σ))) (tgt : AV → Cm Unit) (body : Cm AF) : Cm AF := bd f fun i st => forG nx tgt body (size i st) i st

theorem ImplS1.for {gt : Expr → Bool} {target iter : Expr} {body : List Stmt} {pos : Pos} {σ : Type} {f : Cm σ} {size : σ → AS → Nat} {nx : σ → AS → Option (Option (AV × σ))} {tgt : AV → Cm Unit} {fb : Cm AF} (h0 : ImplI c n sx iter gt f nx) (h1 : ImplA c n sx target tgt) (h2 : ImplS c n sx body fb)
    (hg : gt target = true := by rfl) (hs : ∀ env x, foldedSetIterable iter env x = pure x := by intro _ _; rfl) : ImplS1 c n sx (.For target iter body [] pos) (forM' f size nx tgt fb) := by
  intro p hsx hr W0 W st s hle I r st' e Q E hQ
  obtain ⟨i, st1, e1, e2⟩ := bd_some e
  subst hsx
  refine wpAny_For (h0 p rfl hr W st s I i st1 e1 _ E fun W1 s1 It wr J x1 I1 T j hwr => ?_) (hs p.env)
  refine loop_ok T hr hg h1 h2 hwr (fun b hb => I.hr.base_none (hwr b hb)) (fun b hb q => ?_) (fun b hb y q => ?_) x1 I1 j e2 (fun W' fl s' x' I' r' => hQ W' fl s' x' I' r')
  · obtain ⟨ml, ⟨o1, es, ep, ho, _⟩, _⟩ := I.fr.ns
    rw [← q, hwr b hb] at ho; cases ho
  · obtain ⟨v', o1, ho, _⟩ := I.fr.cells y b q
    rw [hwr b hb] at ho; cases ho

end
end Mine

namespace Mine

section
variable {c : Cx} {n : Nat} {sx : Sx}

/-! what stands: a row of items -/
def nxL : List AV → AS → Option (Option (AV × List AV)) := fun xs _ => match xs with
  | [] => some .none
  | x :: r => some (some (x, r))
def sizeL : List AV → AS → Nat := fun xs _ => xs.length + 1

structure JW (p : Pl) (fp wr : List Addr) (N : Nat) (P : Nat → Value → Prop) (St : Nat → Heap → Prop) (xs : List AV) (W : Wd) (st : AS) (h : Heap) : Prop where
  at_ : ∃ i, i + xs.length = N ∧ St i h ∧ ∀ k v x, xs[k]? = some x → P (i + k) v → VR W v x
  fpOk : ∀ b ∈ fp, ¬ W.Mut b ∧ ¬ p.Own b ∧ ∃ o, h.get? b = some o
  wrOk : ∀ b ∈ wr, W.role b = .oth

theorem itr_walks {p : Pl} {I : Addr} {fp wr : List Addr} {N : Nat} {P : Nat → Value → Prop} {St : Nat → Heap → Prop} (Wk : Walks c.prog c.w p.A I fp wr N P St) (hal : ∀ i h, St i h → ∀ b ∈ fp, ∃ o, h.get? b = some o)
    (hgo : ∀ i (s : Shared) v tgt (Q : Unit → Shared → Prop) (E : Value → Shared → Prop), goesT tgt = true → St i s.heap → Q () s → wpAny (model c.prog c.w) p.A (letOwnedTupleGo tgt (.ref I) v) Q E s) : Itr c p I wr goesT nxL (JW p fp wr N P St) where
  frame := fun xs W W' st st' s s' j Iv x Iv' => by
    obtain ⟨i, h1, h2, h3⟩ := j.at_
    have kp : ∀ b ∈ fp, ∀ o, s.heap.get? b = some o → s'.heap.get? b = some o := fun b hb o e => x.kept b o (j.fpOk b hb).1 (j.fpOk b hb).2.1 e
    refine ⟨⟨i, h1, Wk.frame i s.heap s'.heap h2 kp, fun k v y e q => (h3 k v y e q).mono x.le⟩, fun b hb => ?_, fun b hb => ?_⟩
    · obtain ⟨q1, q2, o, q3⟩ := j.fpOk b hb
      exact ⟨x.unmut q3 q1, q2, o, kp b hb o q3⟩
    · obtain ⟨q1, q2, o, q3⟩ := j.fpOk b (Wk.sub b hb)
      exact x.oth b o q3 (j.wrOk b hb)
  wrOk := fun xs W st h j b hb => ⟨j.wrOk b hb, (j.fpOk b (Wk.sub b hb)).2.2⟩
  next := fun xs xs' x W st s tgt hg j Iv e Q E hQ => by
    obtain ⟨i, h1, h2, h3⟩ := j.at_
    cases xs with
    | nil => cases e
    | cons y r =>
      cases e
      have hi : i < N := by rw [List.length_cons] at h1; omega
      refine Wk.item i s _ E hi h2 fun v h' tk hP hS hk => ?_
      refine hgo (i + 1) { s with heap := h', toks := tk } v tgt _ E hg hS ?_
      refine hQ W v h' tk (.inl rfl) (h3 0 v x rfl (by simpa using hP)) ⟨⟨i + 1, by rw [List.length_cons] at h1; omega, hS, fun k w z q1 q2 => h3 (k + 1) w z (by simpa using q1) (by rw [show i + (k + 1) = i + 1 + k from by omega]; exact q2)⟩, fun b hb => ?_, j.wrOk⟩ hk
      exact ⟨(j.fpOk b hb).1, (j.fpOk b hb).2.1, hal _ _ hS b hb⟩
  stop := fun xs W st s j Iv e Q E hQ => by
    obtain ⟨i, h1, h2, h3⟩ := j.at_
    cases xs with
    | cons y r => cases e
    | nil =>
      have hi : i = N := by simpa using h1
      subst hi
      exact Wk.done s _ E h2 fun h' tk hk => hQ h' tk hk
  self := fun xs W st s j Q E hQ => by
    obtain ⟨i, h1, h2, h3⟩ := j.at_
    exact Wk.self i s Q E h2 hQ

theorem go_listiter {A : Around} {s : Shared} {I l : Addr} {i : Nat} {v : Value} {tgt : Expr} {Q : Unit → Shared → Prop} {E : Value → Shared → Prop} (hg : goesT tgt = true) (hit : s.heap.IsListIter I l i) (hQ : Q () s) : wpAny (model c.prog c.w) A (letOwnedTupleGo tgt (.ref I) v) Q E s := by
  cases tgt with
  | Name => exact wpAny_pure hQ
  | Tuple elts k pos =>
    cases v with
    | ref T => exact wpAny_letOwnedTupleGo_listiter hit hQ
    | _ => exact wpAny_pure hQ
  | _ => cases hg

def lstIt : AV → Cm (List AV) := fun x => match x with
  | .lst xs => pu xs
  | _ => no
/-- a new address is none of the frame's own -/
theorem Inv.fresh_own {p : Pl} {W : Wd} {st : AS} {s : Shared} (I : Inv c p W st s) {a : Addr} (h : s.heap.get? a = .none) : ¬ p.Own a := fun q => by
  rcases q with rfl | q
  · obtain ⟨ml, ⟨o1, es, ep, ho, _⟩, _⟩ := I.fr.ns
    rw [h] at ho; cases ho
  · obtain ⟨y, q⟩ := I.fr.wcIn a q
    obtain ⟨v', o1, ho, _⟩ := I.fr.cells y a q
    rw [h] at ho; cases ho
theorem Inv.frz_own {p : Pl} {W : Wd} {st : AS} {s : Shared} (I : Inv c p W st s) {a : Addr} {o : Obj} (h : W.role a = .frz o) : ¬ p.Own a ∧ ¬ W.Mut a := ⟨(fun q => by rw [I.fr.ownOth q] at h; cases h), (by unfold Wd.Mut; rw [h]; exact fun q => q)⟩

theorem ImplI.list {e : Expr} {f : Cm AV} (h : ImplE c n sx e f) : ImplI c n sx e goesT (bd f lstIt) nxL := by
  intro p hsx hr W st s I xs st' e Q E hQ
  obtain ⟨x, st1, e1, e2⟩ := bd_some e
  refine h p hsx hr W W st s (Le.refl _) I x st1 e1 _ E fun W1 v s1 x1 I1 r1 => ?_
  cases r1 with
  | @lst a vs m _ hrole hvs =>
    cases e2
    have L := I1.hr.isList hrole
    have hn : s1.heap.get? s1.heap.objs.size = .none := get_none_of_ge (Nat.le_refl _)
    have ha := I1.hr.frz _ _ hrole
    have hne : a ≠ s1.heap.objs.size := Nat.ne_of_lt (Heap.lt_size ha)
    refine wpAny_pyIter_list L ?_
    have k2 : ∀ b o, s1.heap.get? b = some o → (s1.heap.push { cls := .type "list_iterator", data := .fields #[.ref a, .int 0 0] }).get? b = some o := fun _ _ e => Heap.get?_push_of_some _ e
    have x2 : Ext p.Own W1 s1 W1 { s1 with heap := s1.heap.push { cls := .type "list_iterator", data := .fields #[.ref a, .int 0 0] } } := Ext.keeps _ _ k2 rfl rfl
    have Wk := Walks.list (prog := c.prog) (w := c.w) (A := p.A) hr.1 s1.heap.objs.size a hne vs.toArray
    refine hQ W1 _ s1.heap.objs.size [s1.heap.objs.size] _ (x1.trans x2) (I1.keeps k2) (itr_walks Wk (fun i hh q b hb => ?_) (fun i s v tgt Q E hg q hq => go_listiter hg q.1 hq)) ⟨⟨0, ?_, ⟨⟨_, Heap.get?_push_size _ rfl, rfl, rfl⟩, L.push _⟩, fun k v y q1 q2 => ?_⟩, fun b hb => ?_, fun b hb => ?_⟩ fun b hb => ?_
    · rcases List.mem_cons.mp hb with rfl | hb
      · obtain ⟨o, ho, _⟩ := q.1; exact ⟨o, ho⟩
      · rw [List.mem_singleton.mp hb]; obtain ⟨o, ho, _⟩ := q.2; exact ⟨o, ho⟩
    · rw [List.size_toArray, hvs.length, Nat.zero_add]
    · rw [Nat.zero_add, List.getElem?_toArray] at q2
      obtain ⟨x', e', r'⟩ := hvs.getv q2
      rw [q1] at e'; cases e'; exact r'
    · rcases List.mem_cons.mp hb with rfl | hb
      · exact ⟨by unfold Wd.Mut; rw [I1.hr.oth_of_none hn]; exact fun q => q, I1.fresh_own hn, _, Heap.get?_push_size _ rfl⟩
      · rw [List.mem_singleton.mp hb]; exact ⟨(I1.frz_own hrole).2, (I1.frz_own hrole).1, _, k2 _ _ ha⟩
    · rw [List.mem_singleton.mp hb]; exact I1.hr.oth_of_none hn
    · rw [List.mem_singleton.mp hb]
      cases z : s.heap.get? s1.heap.objs.size with
      | none => rfl
      | some o => obtain ⟨o1, z1⟩ := x1.alive _ o z; rw [hn] at z1; cases z1
  | _ => cases e2

/-! range -/
def rangeL (a : Int) (N : Nat) : List AV := (List.range N).map fun k => AV.int (a + (k : Nat))
theorem rangeL_len (a : Int) (N : Nat) : (rangeL a N).length = N := by simp [rangeL]

theorem go_range {A : Around} {s : Shared} {I : Addr} {x l t : Int} {v : Value} {tgt : Expr} {Q : Unit → Shared → Prop} {E : Value → Shared → Prop} (hg : goesT tgt = true) (hit : IsRangeIter s.heap I x l t) (hQ : Q () s) : wpAny (model c.prog c.w) A (letOwnedTupleGo tgt (.ref I) v) Q E s := by
  cases tgt with
  | Name => exact wpAny_pure hQ
  | Tuple elts k pos =>
    cases v with
    | ref T =>
      unfold letOwnedTupleGo
      refine wpAny_bind (wpAny_load hit ?_)
      show wpAny _ A (if (["enumerate", "zip", "dict_itemiterator", "dict_reverseitemiterator", "odict_iterator", "itertools.zip_longest", "itertools.pairwise"].contains "range_iterator" && _) = true then _ else _) Q E s
      rw [if_neg (by rw [show (["enumerate", "zip", "dict_itemiterator", "dict_reverseitemiterator", "odict_iterator", "itertools.zip_longest", "itertools.pairwise"].contains "range_iterator") = false from by decide, Bool.false_and]; exact Bool.false_ne_true)]
      exact wpAny_pure hQ
    | _ => exact wpAny_pure hQ
  | _ => cases hg

theorem range_itr {p : Pl} (hr : Room n p.A) {W W1 : Wd} {st : AS} {s s1 : Shared} {a b : Int} {t u v : Tok} {tk : Nat} (x1 : Ext p.Own W s W1 s1) (I1 : Inv c p W1 st s1) (ha : -1000000 ≤ a) (ha' : a ≤ 1000000) (hb : -1000000 ≤ b) (hb' : b ≤ 1000000) {Q : Value → Shared → Prop} {E : Value → Shared → Prop}
    (hQ : ∀ W' s' I wr J, Ext p.Own W s W' s' → Inv c p W' st s' → Itr c p I wr goesT nxL J → J (rangeL a (b - a).toNat) W' st s'.heap → (∀ b ∈ wr, s.heap.get? b = .none) → Q (.ref I) s') :
    wpAny (model c.prog c.w) p.A (pyIter (.ref s1.heap.objs.size)) Q E { s1 with heap := s1.heap.push { cls := .type "range", data := .fields #[.int a t, .int b u, .int 1 v] }, toks := tk } := by
  refine wpAny_pyIter_range (IsRange.new ..) (small_one (by omega) (by omega) (by omega) (by omega)) ?_
  have hn : s1.heap.get? (s1.heap.objs.size + 1) = .none := get_none_of_ge (Nat.le_succ _)
  have hsz : (s1.heap.push { cls := .type "range", data := .fields #[.int a t, .int b u, .int 1 v] }).objs.size = s1.heap.objs.size + 1 := Heap.size_push ..
  have k2 : ∀ d o, s1.heap.get? d = some o → ((s1.heap.push { cls := .type "range", data := .fields #[.int a t, .int b u, .int 1 v] }).push { cls := .type "range_iterator", data := .fields #[rawInt a, rawInt (Builtin.Range.rangeSize a b 1), rawInt 1] }).get? d = some o := fun _ _ e => Heap.get?_push_of_some _ (Heap.get?_push_of_some _ e)
  have hrs : Builtin.Range.rangeSize a b 1 = ((b - a).toNat : Int) := by rw [rangeSize_one]; split <;> omega
  have Wk := Walks.range (prog := c.prog) (w := c.w) (A := p.A) hr.1 (s1.heap.objs.size + 1) a 1 (b - a).toNat
  have hit : ((s1.heap.push { cls := .type "range", data := .fields #[.int a t, .int b u, .int 1 v] }).push { cls := .type "range_iterator", data := .fields #[rawInt a, rawInt (Builtin.Range.rangeSize a b 1), rawInt 1] }).get? (s1.heap.objs.size + 1) = some { cls := .type "range_iterator", data := .fields #[rawInt a, rawInt (Builtin.Range.rangeSize a b 1), rawInt 1] } := by
    have := Heap.get?_push_size (s1.heap.push { cls := .type "range", data := .fields #[.int a t, .int b u, .int 1 v] }) (o := { cls := .type "range_iterator", data := .fields #[rawInt a, rawInt (Builtin.Range.rangeSize a b 1), rawInt 1] }) rfl
    rwa [hsz] at this
  dsimp only
  rw [hsz]
  have x2 : Ext p.Own W1 s1 W1 { s1 with heap := (s1.heap.push { cls := .type "range", data := .fields #[.int a t, .int b u, .int 1 v] }).push { cls := .type "range_iterator", data := .fields #[rawInt a, rawInt (Builtin.Range.rangeSize a b 1), rawInt 1] }, toks := tk } := Ext.keeps _ _ k2 rfl rfl
  refine hQ W1 _ (s1.heap.objs.size + 1) [s1.heap.objs.size + 1] _ (x1.trans x2) (I1.keeps k2) (itr_walks Wk (fun i hh q d hd => ?_) (fun i s v tgt Q E hg q hq => go_range hg q hq)) ⟨⟨0, by rw [rangeL_len, Nat.zero_add], ?_, fun k w y q1 q2 => ?_⟩, fun d hd => ?_, fun d hd => ?_⟩ fun d hd => ?_
  · rw [List.mem_singleton.mp hd]; exact ⟨_, q⟩
  · show IsRangeIter _ _ (a + ((0 : Nat) : Int) * 1) (((b - a).toNat : Int) - ((0 : Nat) : Int)) 1
    rw [show (a + ((0 : Nat) : Int) * 1) = a from by simp, show (((b - a).toNat : Int) - ((0 : Nat) : Int)) = Builtin.Range.rangeSize a b 1 from by rw [hrs]; simp]
    exact hit
  · obtain ⟨t', rfl⟩ := q2
    unfold rangeL at q1
    rw [List.getElem?_map] at q1
    obtain ⟨m, hm, rfl⟩ := Option.map_eq_some_iff.mp q1
    have : m = k := by
      rw [List.getElem?_range] at hm
      · cases hm; rfl
      · rcases Nat.lt_or_ge k (b - a).toNat with z | z
        · exact z
        · rw [List.getElem?_eq_none (by simpa using z)] at hm; cases hm
    subst this
    have e0 : a + ((0 + m : Nat) : Int) * 1 = a + (m : Int) := by simp
    rw [e0]
    exact .int _ _
  · rw [List.mem_singleton.mp hd]
    exact ⟨by unfold Wd.Mut; rw [I1.hr.oth_of_none hn]; exact fun q => q, I1.fresh_own hn, _, hit⟩
  · rw [List.mem_singleton.mp hd]; exact I1.hr.oth_of_none hn
  · rw [List.mem_singleton.mp hd]
    cases z : s.heap.get? (s1.heap.objs.size + 1) with
    | none => rfl
    | some o => obtain ⟨o1, z1⟩ := x1.alive _ o z; rw [hn] at z1; cases z1

def rangeM : List AV → Cm (List AV) := fun xs => match xs with
  | [.int b] => if -1000000 ≤ b ∧ b ≤ 1000000 then pu (rangeL 0 b.toNat) else no
  | [.int a, .int b] => if -1000000 ≤ a ∧ a ≤ 1000000 ∧ -1000000 ≤ b ∧ b ≤ 1000000 then pu (rangeL a (b - a).toNat) else no
  | _ => no

theorem ImplI.range (G : Gd c) {x : Str} {p0 pos : Pos} {es : List Expr} {fs : Cm (List AV)} (hx : sx.sc.names.lookup x = some .globalImplicit) (hg : c.Glob x (.type "range")) (h : ImplEs c n sx es fs) (hd : (x == ("__debug__" : Str)) = false := by decide) (hp : es.all plainX = true := by rfl) :
    ImplI c n sx (.Call (.Name x p0) es [] pos) goesT (bd fs rangeM) nxL := by
  intro p hsx hr W st s I xs st' e Q E hQ
  obtain ⟨ys, st1, e1, e2⟩ := bd_some e
  refine Call_ (load_glob G I (by rw [hsx]; exact hx) hg hd ?_)
  refine PyProof.Rows.callWith_type (any_false hp) (evalArgs_row hp ?_)
  refine h p hsx hr W pos W st s (Le.refl _) I ys st1 e1 _ E fun W1 vs s1 x1 I1 r1 => ?_
  unfold rangeM at e2
  split at e2
  · rename_i b
    split at e2
    · rename_i hb
      cases e2
      cases r1 with
      | cons ha hr' =>
        cases hr'
        cases ha
        refine call_range_1 (range_itr (a := 0) hr x1 I1 (by decide) (by decide) hb.1 hb.2 fun W' s' I wr J q1 q2 q3 q4 q5 => hQ W' s' I wr J q1 q2 q3 ?_ q5)
        rwa [show (b - 0).toNat = b.toNat from by rw [Int.sub_zero]] at q4
    · cases e2
  · rename_i a b
    split at e2
    · rename_i hb
      cases e2
      cases r1 with
      | cons ha hr' =>
        cases hr' with
        | cons hb' hr'' =>
          cases hr''
          cases ha
          cases hb'
          exact call_range_2 (range_itr hr x1 I1 hb.1 hb.2.1 hb.2.2.1 hb.2.2.2 fun W' s' I wr J q1 q2 q3 q4 q5 => hQ W' s' I wr J q1 q2 q3 q4 q5)
    · cases e2
  · cases e2

end
end Mine

namespace Mine

section
variable {c : Cx} {n : Nat} {sx : Sx}

/-! while -/
def whileG (t : Cm Bool) (body : Cm AF) : Nat → Cm AF
  | 0 => no
  | m + 1 => bd t fun b => if b then thenM body (whileG t body m) else pu .next
def whileM (size : AS → Nat) (t : Cm Bool) (body : Cm AF) : Cm AF := fun st => whileG t body (size st) st

theorem ImplS1.while {test : Expr} {body : List Stmt} {pos : Pos} {size : AS → Nat} {t : Cm Bool} {fb : Cm AF} (h1 : ImplT c n sx test t) (h2 : ImplS c n sx body fb) : ImplS1 c n sx (.While test body [] pos) (whileM size t fb) := by
  intro p hsx hr W0 W st s hle I r st' e Q E hQ
  subst hsx
  refine wpAny_While (codeAny_whileLoop (fun k s' => ∃ W' st1, Ext p.Own W s W' s' ∧ Inv c p W' st1 s' ∧ whileG t fb k st1 = some (r, st')) ?_ (size st) ⟨W, st, Ext.refl .., I, e⟩)
  rintro k s1 ⟨W1, st1, x1, I1, e1⟩
  cases k with
  | zero => cases e1
  | succ k =>
    obtain ⟨b, st2, e2, e3⟩ := bd_some e1
    refine wpAny_noRaise (h1 p rfl hr W1 W1 st1 s1 (Le.refl _) I1 b st2 e2 _ _ fun W2 b' s2 x2 I2 r2 => ?_)
    subst r2
    cases b' with
    | true =>
      rw [if_pos rfl] at e3 ⊢
      obtain ⟨fr, st3, e4, e5⟩ := bd_some e3
      refine wpAny_noRaise (h2 p rfl hr W2 W2 st2 s2 (Le.refl _) I2 fr st3 e4 _ _ fun W3 fl s3 x3 I3 r3 => ?_)
      cases r3 with
      | next => exact ⟨k, Nat.lt_succ_self _, W3, st3, (x1.trans x2).trans x3, I3, e5⟩
      | ret rv => cases e5; exact hQ W3 _ s3 ((x1.trans x2).trans x3) I3 (.ret rv)
    | false =>
      rw [if_neg Bool.false_ne_true] at e3 ⊢
      cases e3
      exact wpAny_execs_nil (hQ W2 _ s2 (x1.trans x2) I2 .next)

/-! enumerate -/
def enumL : Nat → List AV → List AV
  | _, [] => []
  | i, x :: r => .tup [.int (i : Nat), x] :: enumL (i + 1) r
theorem enumL_len : ∀ (i : Nat) (xs : List AV), (enumL i xs).length = xs.length
  | _, [] => rfl
  | i, x :: r => by rw [enumL, List.length_cons, List.length_cons, enumL_len]

structure JE (p : Pl) (e it l : Addr) (xs : List AV) (W : Wd) (st : AS) (h : Heap) : Prop where
  at_ : ∃ (i m : Nat) (vs us : List Value) (ys : List AV) (old : Value), xs = enumL i ys ∧ W.role l = .frz (listOf (vs ++ us).toArray m) ∧ i = vs.length ∧ VRs W us ys ∧ IsEnum h e it ((i : Nat) : Int) old ∧ h.IsListIter it l i
  eo : W.role e = .oth ∧ ¬ p.Own e
  io : W.role it = .oth ∧ ¬ p.Own it

theorem enum_itr {p : Pl} (hr : Room n p.A) {e it l : Addr} (hei : e ≠ it) : Itr c p e [e, it] goesU nxL (JE p e it l) where
  frame := fun xs W W' st st' s s' j Iv x Iv' => by
    obtain ⟨i, m, vs, us, ys, old, h1, h2, h3, h4, h5, h6⟩ := j.at_
    obtain ⟨o, h7, h8⟩ := h6
    have me : ¬ W.Mut e := by unfold Wd.Mut; rw [j.eo.1]; exact fun q => q
    have mi : ¬ W.Mut it := by unfold Wd.Mut; rw [j.io.1]; exact fun q => q
    exact ⟨⟨i, m, vs, us, ys, old, h1, x.le.frz _ _ h2, h3, h4.mono x.le, x.kept _ _ me j.eo.2 h5, ⟨o, x.kept _ _ mi j.io.2 h7, h8⟩⟩, ⟨x.oth _ _ h5 j.eo.1, j.eo.2⟩, ⟨x.oth _ _ h7 j.io.1, j.io.2⟩⟩
  wrOk := fun xs W st h j b hb => by
    obtain ⟨i, m, vs, us, ys, old, h1, h2, h3, h4, h5, h6⟩ := j.at_
    obtain ⟨o, h7, h8⟩ := h6
    rcases List.mem_cons.mp hb with q | hb
    · rw [q]; exact ⟨j.eo.1, _, h5⟩
    · rw [List.mem_singleton.mp hb]; exact ⟨j.io.1, _, h7⟩
  next := fun xs xs' x W st s tgt hg j Iv e' Q E hQ => by
    obtain ⟨i, m, vs, us, ys, old, h1, h2, h3, h4, h5, h6⟩ := j.at_
    subst h1
    cases h4 with
    | nil => cases e'
    | @cons v us y ys hv hvs =>
      simp only [enumL, nxL] at e'
      cases e'
      cases tgt with
      | Tuple elts k pos =>
        have hL := Iv.hr.isList h2
        have hx : (vs ++ v :: us).toArray[i]? = some v := by rw [List.getElem?_toArray, h3, List.getElem?_append_right (Nat.le_refl _), Nat.sub_self]; rfl
        have hT : s.heap.get? s.heap.objs.size = .none := get_none_of_ge (Nat.le_refl _)
        have heT : e ≠ s.heap.objs.size := Nat.ne_of_lt (Heap.lt_size h5)
        have hle : l ≠ e := fun q => by rw [q, j.eo.1] at h2; cases h2
        refine wpAny_pyNext_enum_item h5 h6 hL hx hei fun h1' ho hit' ht' hz hk => ?_
        refine wpAny_letOwnedTupleGo_enum ho fun h2' he2 hs2 => ?_
        have hs : Heap.SameBut e h1' h2' := hs2
        have ht2 := hs.extBut _ _ (Ne.symm heT) ht'
        have hit2 := hit'.extBut hs.extBut (Ne.symm hei)
        refine hQ (W.set s.heap.objs.size (.frz _)) (.ref s.heap.objs.size) h2' (s.toks + 1) (.inr ⟨_, _, hT, ht2, rfl⟩) ?_ ?_ fun b o hb q => ?_
        · have L : Le W (W.set s.heap.objs.size (.frz { cls := .type "tuple", data := .seq #[.int i s.toks, v] })) := Le.set (Iv.hr.oth_of_none hT)
          exact .tup (vs := [.int i s.toks, v]) Wd.set_self rfl rfl (.cons (.int _ _) (.cons (hv.mono L) .nil))
        · have L : Le W (W.set s.heap.objs.size (.frz { cls := .type "tuple", data := .seq #[.int i s.toks, v] })) := Le.set (Iv.hr.oth_of_none hT)
          obtain ⟨oi, hoi, _⟩ := h6
          have hiT : it ≠ s.heap.objs.size := Nat.ne_of_lt (Heap.lt_size hoi)
          refine ⟨⟨i + 1, m, vs ++ [v], us, ys, v, rfl, ?_, by rw [List.length_append, h3]; rfl, hvs.mono L, ?_, hit2⟩, ⟨?_, j.eo.2⟩, ⟨?_, j.io.2⟩⟩
          · rw [List.append_assoc]; exact L.frz _ _ h2
          · have z : ((i + 1 : Nat) : Int) = (i : Int) + 1 := by push_cast; rfl
            rw [z]; exact he2
          · rw [Wd.set_other heT]; exact j.eo.1
          · rw [Wd.set_other hiT]; exact j.io.1
        · have q1 : b ≠ e := fun z => hb (by rw [z]; exact List.mem_cons_self)
          have q2 : b ≠ it := fun z => hb (by rw [z]; exact List.mem_cons_of_mem _ List.mem_cons_self)
          exact hs.extBut _ _ q1 (hk b o q1 q2 q)
      | _ => cases hg
  stop := fun xs W st s j Iv e' Q E hQ => by
    obtain ⟨i, m, vs, us, ys, old, h1, h2, h3, h4, h5, h6⟩ := j.at_
    subst h1
    cases h4 with
    | cons => cases e'
    | nil =>
      have hL := Iv.hr.isList h2
      refine wpAny_pyNext_enum_end hr.1 h5 h6 hL (by rw [List.getElem?_toArray, List.append_nil, h3]; exact List.getElem?_eq_none (Nat.le_refl _)) fun h' hk => ?_
      exact hQ h' s.toks fun b o hb q => hk b o (fun z => hb (by rw [z]; exact List.mem_cons_of_mem _ List.mem_cons_self)) q
  self := fun xs W st s j Q E hQ => by
    obtain ⟨i, m, vs, us, ys, old, h1, h2, h3, h4, h5, h6⟩ := j.at_
    exact wpAny_pyIter_enum h5 hQ

def enumIt : List AV → Cm (List AV) := fun xs => match xs with
  | [.lst xs] => pu (enumL 0 xs)
  | _ => no
theorem ImplI.enumerate (G : Gd c) {x : Str} {p0 pos : Pos} {e : Expr} {f : Cm AV} (hx : sx.sc.names.lookup x = some .globalImplicit) (hg : c.Glob x (.type "enumerate")) (h : ImplE c n sx e f) (hd : (x == ("__debug__" : Str)) = false := by decide) (hp : plainX e = true := by rfl) :
    ImplI c n sx (.Call (.Name x p0) [e] [] pos) goesU (bd (bd f fun x => pu [x]) enumIt) nxL := by
  intro p hsx hr W st s I xs st' ee Q E hQ
  obtain ⟨ys, st1, e1, e2⟩ := bd_some ee
  obtain ⟨y, st2, e3, e4⟩ := bd_some e1
  cases e4
  have hp' : [e].all plainX = true := by simp [hp]
  refine Call_ (load_glob G I (by rw [hsx]; exact hx) hg hd ?_)
  refine PyProof.Rows.callWith_type (any_false hp') (evalArgs_row hp' ?_)
  refine (ImplEs.cons h ImplEs.nil hp) p hsx hr W pos W st s (Le.refl _) I [y] st1 (by simp [consM, bd, e3, pu]) _ E fun W1 vs s1 x1 I1 r1 => ?_
  cases r1 with
  | cons ra rr =>
    cases rr
    cases ra with
    | @lst a vs m zs hrole hvs =>
      cases e2
      have L := I1.hr.isList hrole
      have hn : s1.heap.get? s1.heap.objs.size = .none := get_none_of_ge (Nat.le_refl _)
      have hn2 : s1.heap.get? (s1.heap.objs.size + 1) = .none := get_none_of_ge (Nat.le_succ _)
      refine call_enumerate_list L fun h' he hit hz hk => ?_
      have x2 : Ext p.Own W1 s1 W1 { s1 with heap := h' } := Ext.keeps _ _ hk rfl rfl
      refine wpAny_pyIter_enum he (hQ W1 _ (s1.heap.objs.size + 1) [s1.heap.objs.size + 1, s1.heap.objs.size] _ (x1.trans x2) (I1.keeps hk) (enum_itr hr (Nat.succ_ne_self _)) ⟨⟨0, m, [], vs, zs, .none, rfl, hrole, rfl, hvs, he, hit⟩, ⟨I1.hr.oth_of_none hn2, I1.fresh_own hn2⟩, ⟨I1.hr.oth_of_none hn, I1.fresh_own hn⟩⟩ fun b hb => ?_)
      have hb' : s1.heap.get? b = .none := by
        rcases List.mem_cons.mp hb with q | hb
        · rw [q]; exact hn2
        · rw [List.mem_singleton.mp hb]; exact hn
      cases z : s.heap.get? b with
      | none => rfl
      | some o => obtain ⟨o1, z1⟩ := x1.alive _ o z; rw [hb'] at z1; cases z1
    | _ => cases e2

/-! type -/
def typeF : AV → Option String
  | .none => some "NoneType"
  | .bool _ => some "bool"
  | .int _ => some "int"
  | .str _ => some "str"
  | .bytes _ => some "bytes"
  | .lst _ => some "list"
  | .tup _ => some "tuple"
  | _ => .none
def typeM : List AV → Cm AV := fun xs st => match xs with
  | [x] => (match typeF x with | some t => some (.val (.type t), st) | .none => .none)
  | _ => .none
theorem type_ok : OkCall c n (.type "type") typeM := by
  intro p hr W0 vs xs hv W st s hle I b st' e Q E hQ
  cases hv with
  | nil => cases e
  | cons ha hr' =>
    cases hr' with
    | cons => cases e
    | nil =>
      have key : ∀ v T, s.TypeIs v T → (Value.type T == Value.type "builtin_function_or_method") = false → (AV.val (.type T), st) = (b, st') → wpAny (model c.prog c.w) p.A (call (.type "type") [v]) Q E s := fun v T h1 h2 h3 => by
        cases h3
        exact call_type_of h1 h2 (hQ W _ s (Ext.refl ..) I (.val _ rfl))
      cases ha.mono hle with
      | none => exact key _ "NoneType" rfl (by decide +kernel) (Option.some.inj e)
      | bool => exact key _ "bool" rfl (by decide +kernel) (Option.some.inj e)
      | int => exact key _ "int" rfl (by decide +kernel) (Option.some.inj e)
      | str => exact key _ "str" rfl (by decide +kernel) (Option.some.inj e)
      | bytes => exact key _ "bytes" rfl (by decide +kernel) (Option.some.inj e)
      | lst h1 h2 => exact key _ "list" ⟨_, I.hr.frz _ _ h1, rfl⟩ (by decide +kernel) (Option.some.inj e)
      | tup h1 h2 h3 h4 => exact key _ "tuple" ⟨_, I.hr.frz _ _ h1, h2⟩ (by decide +kernel) (Option.some.inj e)
      | _ => cases e

end
end Mine

namespace Mine

section
variable {c : Cx} {n : Nat} {sx : Sx}

/-! the law's own frame -/
theorem ints_are {W : Wd} : ∀ {vs : List Value} {ns : List Int}, IntsAre vs ns → VRs W vs (ns.map .int)
  | _, _, h => by
    induction h with
    | nil => exact .nil
    | cons => exact .cons (.int _ _) (by assumption)

theorem law_ok (G : Gd c) {nm : Str} {scope : Scope} {fa : Addr} {cd : Value} {body : List Stmt} {x : Str} {others : List Str} {f : Cm AF} (hS : ImplS c n ⟨scope, x :: others, x :: others⟩ body f)
    (hn : n ≤ 80) (hk : scope.kind = .function) (hkinds : ((x :: others).all fun y => scope.names.lookup y == some .local) = true) (hnd : (x :: others).Nodup)
    {s : Shared} {m : Str → Option Value} (F : Fr c.h0 c.h0.objs.size s.heap m) {a : Addr} (hm : m x = some (.ref a)) {vs : List Value} {ns : List Int} (hL : c.h0.IsList a vs.toArray) (hI : IntsAre vs ns)
    (hf : ∃ st', f ⟨.lsb (ns.map .int) :: List.replicate others.length .unb, [], [[]], 0⟩ = some (.ret (.bool true), st')) {Q : Flow → Shared → Prop} {E : Value → Shared → Prop}
    (hQ : ∀ s', (∀ b o, c.h0.get? b = some o → s'.heap.get? b = some o) → s'.gens = s.gens → s'.os = s.os → Q (.ret (.bool true)) s') :
    wpAny (model c.prog c.w) (callerA.deeper (envOf nm scope c.h0.objs.size fa cd)) (execs body (envOf nm scope c.h0.objs.size fa cd)) Q E s := by
  obtain ⟨st', hf⟩ := hf
  obtain ⟨o, ho, hc, k, hd⟩ := hL
  have hLn : c.h0.get? c.h0.objs.size = .none := get_none_of_ge (Nat.le_refl _)
  have haL : c.h0.objs.size ≠ a := fun q => by rw [← q, hLn] at ho; cases ho
  let W : Wd := ⟨fun b => if b = a then .frz o else .oth, fun _ => 0, fun _ => 0, fun _ => 0, 0, 0⟩
  let p : Pl := ⟨callerA.deeper (envOf nm scope c.h0.objs.size fa cd), ⟨scope, x :: others, x :: others⟩, envOf nm scope c.h0.objs.size fa cd, []⟩
  have hW : ∀ b, W.role b = .oth ∨ (b = a ∧ W.role b = .frz o) := fun b => by
    by_cases q : b = a
    · exact .inr ⟨q, if_pos q⟩
    · exact .inl (if_neg q)
  have hnm : ∀ b, ¬ W.Mut b := fun b q => by
    unfold Wd.Mut at q
    rcases hW b with z | ⟨_, z⟩ <;> rw [z] at q <;> exact q
  have hkl : ∀ y ∈ x :: others, p.env.kindOf y = some .local := fun y hy => by
    have := List.all_eq_true.mp hkinds y hy
    exact beq_iff_eq.mp this
  have I : Inv c p W ⟨.lsb (ns.map .int) :: List.replicate others.length .unb, [], [[]], 0⟩ s := by
    refine ⟨⟨F.keep, fun b q => absurd q (hnm b), fun b => ?_, fun b o' e => ?_, rfl, rfl, fun k hk => absurd hk (Nat.not_lt_zero _), (fun k i e => by simp at e), fun g hg p hp => ?_, ?_⟩,
      ⟨⟨m, F.ns, fun i y v h1 h2 h3 h4 => ?_⟩, fun i y v h1 h2 h3 h4 => ?_, (fun y b q => by cases q), fun y hy q => ?_, fun y hy => .inl (hkl y hy), List.Pairwise.nil, (fun b hb => by cases hb), if_neg haL, (fun y b q => by cases q), hLn, rfl, hk, rfl, rfl, hnd⟩⟩
    · rcases hW b with z | ⟨z1, z2⟩
      · exact .inl z
      · exact .inr ⟨o, F.keep _ _ (z1 ▸ ho)⟩
    · rcases hW b with z | ⟨z1, z2⟩
      · rw [z] at e; cases e
      · rw [z2] at e; cases e; exact F.keep _ _ (z1 ▸ ho)
    · rw [List.mem_singleton.mp hg] at hp; cases hp
    · exact List.nodup_nil
    · cases i with
      | zero =>
        have e1 : x = y := Option.some.inj h1
        have e2 : AV.lsb (ns.map .int) = v := Option.some.inj h2
        subst e1 e2
        exact ⟨_, hm, .lsb (if_pos rfl) hc hd (ints_are hI)⟩
      | succ i =>
        have h2' : (List.replicate others.length AV.unb)[i]? = some v := h2
        rw [List.getElem?_replicate] at h2'
        split at h2'
        · exact absurd (Option.some.inj h2').symm h3
        · cases h2'
    · rw [hkl y (List.mem_of_getElem? h1)] at h4; cases h4
    · rw [hkl y hy] at q; cases q
  have hr : Room n p.A := ⟨rfl, by show 1 + claimMargin + 1 + 2 * n ≤ 900; unfold claimMargin; omega, by show 4 + 3 + 100 * n + 100 ≤ 9000; omega⟩
  refine hS p rfl hr W W _ s (Le.refl _) I _ st' hf Q E fun W1 fl s1 x1 I1 r1 => ?_
  cases r1 with
  | ret rv =>
    cases rv
    exact hQ s1 I1.hr.keep x1.gens x1.os
end
end Mine

set_option maxRecDepth 100000 in
set_option maxHeartbeats 8000000 in
open_top hd02 for PySem.Challenge.rw_dn0304_02
namespace Mine
set_option maxHeartbeats 4000000
section
variable {w : World} {h0 : Heap} {mg mb : Str → Option Value} {n : Nat} {sx : Sx}
noncomputable abbrev cx (w : World) (h0 : Heap) (mg mb : Str → Option Value) : Cx := ⟨PySem.Challenge.rw_dn0304_02.row.prog, w, hd02.heap_39 w.params, 102, h0, mg, mb⟩

theorem cls : Cls (cx w h0 mg mb) where
  makes := by show makesIn (hd02.heap_39 w.params) 102 = true; k_is
  ga := by show findIn (hd02.heap_39 w.params) (.ref 102) (Str.ofString "__getattribute__") = _; k_is
  gat := by show findIn (hd02.heap_39 w.params) (.ref 102) (Str.ofString "__getattr__") = _; k_is
  sa := by show findIn (hd02.heap_39 w.params) (.ref 102) (Str.ofString "__setattr__") = _; k_is
  plain := by show plainOver (hd02.heap_39 w.params) 102 = true; k_is
  hasDict := by show hasDictIn (hd02.heap_39 w.params) 102 = true; k_is
  fields := fun f => by
    cases f
    · show findIn (hd02.heap_39 w.params) (.ref 102) (Str.ofString "_InputSource__system_id") = _; k_is
    · show findIn (hd02.heap_39 w.params) (.ref 102) (Str.ofString "_InputSource__public_id") = _; k_is
    · show findIn (hd02.heap_39 w.params) (.ref 102) (Str.ofString "_InputSource__encoding") = _; k_is
    · show findIn (hd02.heap_39 w.params) (.ref 102) (Str.ofString "_InputSource__bytefile") = _; k_is
    · show findIn (hd02.heap_39 w.params) (.ref 102) (Str.ofString "_InputSource__charfile") = _; k_is
  keep := by show keepIn (hd02.heap_39 w.params) (.ref 102) = true; k_is

theorem m_getSystemId : MethIs (cx w h0 mg mb) "getSystemId" 57 where
  find := by show findIn (hd02.heap_39 w.params) (.ref 102) (Str.ofString "getSystemId") = _; k_is
  typ := by show typeIn (hd02.heap_39 w.params) (.ref 57) = _; k_is
  fn := ⟨_, _, _, _, by show List.lookup 57 (hd02.heap_39 w.params) = _; k_is⟩
  other := fun f => by cases f <;> decide +kernel
theorem f_getSystemId (G : Gd (cx w h0 mg mb)) : ImplF (cx w h0 mg mb) (n + 1) 57 (getF .sys) := getter_ok G cls (x := "self") (f := .sys) ⟨⟨_, _, _, by show List.lookup 57 (hd02.heap_39 w.params) = _; k_is⟩, rfl, rfl, rfl, rfl, by show codeIn (hd02.heap_39 w.params) _ _ = true; k_is, rfl, rfl, rfl, fun vals h => match vals, h with | [_], _ => rfl, by decide +kernel, by decide +kernel⟩ (by decide +kernel)
theorem m_setSystemId : MethIs (cx w h0 mg mb) "setSystemId" 50 where
  find := by show findIn (hd02.heap_39 w.params) (.ref 102) (Str.ofString "setSystemId") = _; k_is
  typ := by show typeIn (hd02.heap_39 w.params) (.ref 50) = _; k_is
  fn := ⟨_, _, _, _, by show List.lookup 50 (hd02.heap_39 w.params) = _; k_is⟩
  other := fun f => by cases f <;> decide +kernel
theorem f_setSystemId (G : Gd (cx w h0 mg mb)) : ImplF (cx w h0 mg mb) (n + 1) 50 (setF .sys) := setter_ok G cls (x := "self") (y := "system_id") (f := .sys) ⟨⟨_, _, _, by show List.lookup 50 (hd02.heap_39 w.params) = _; k_is⟩, rfl, rfl, rfl, rfl, by show codeIn (hd02.heap_39 w.params) _ _ = true; k_is, rfl, rfl, rfl, fun vals h => match vals, h with | [_, _], _ => rfl, by decide +kernel, by decide +kernel⟩ (by decide +kernel) (by decide +kernel)
theorem m_getPublicId : MethIs (cx w h0 mg mb) "getPublicId" 43 where
  find := by show findIn (hd02.heap_39 w.params) (.ref 102) (Str.ofString "getPublicId") = _; k_is
  typ := by show typeIn (hd02.heap_39 w.params) (.ref 43) = _; k_is
  fn := ⟨_, _, _, _, by show List.lookup 43 (hd02.heap_39 w.params) = _; k_is⟩
  other := fun f => by cases f <;> decide +kernel
theorem f_getPublicId (G : Gd (cx w h0 mg mb)) : ImplF (cx w h0 mg mb) (n + 1) 43 (getF .pub) := getter_ok G cls (x := "self") (f := .pub) ⟨⟨_, _, _, by show List.lookup 43 (hd02.heap_39 w.params) = _; k_is⟩, rfl, rfl, rfl, rfl, by show codeIn (hd02.heap_39 w.params) _ _ = true; k_is, rfl, rfl, rfl, fun vals h => match vals, h with | [_], _ => rfl, by decide +kernel, by decide +kernel⟩ (by decide +kernel)
theorem m_setPublicId : MethIs (cx w h0 mg mb) "setPublicId" 36 where
  find := by show findIn (hd02.heap_39 w.params) (.ref 102) (Str.ofString "setPublicId") = _; k_is
  typ := by show typeIn (hd02.heap_39 w.params) (.ref 36) = _; k_is
  fn := ⟨_, _, _, _, by show List.lookup 36 (hd02.heap_39 w.params) = _; k_is⟩
  other := fun f => by cases f <;> decide +kernel
theorem f_setPublicId (G : Gd (cx w h0 mg mb)) : ImplF (cx w h0 mg mb) (n + 1) 36 (setF .pub) := setter_ok G cls (x := "self") (y := "public_id") (f := .pub) ⟨⟨_, _, _, by show List.lookup 36 (hd02.heap_39 w.params) = _; k_is⟩, rfl, rfl, rfl, rfl, by show codeIn (hd02.heap_39 w.params) _ _ = true; k_is, rfl, rfl, rfl, fun vals h => match vals, h with | [_, _], _ => rfl, by decide +kernel, by decide +kernel⟩ (by decide +kernel) (by decide +kernel)
theorem m_getEncoding : MethIs (cx w h0 mg mb) "getEncoding" 71 where
  find := by show findIn (hd02.heap_39 w.params) (.ref 102) (Str.ofString "getEncoding") = _; k_is
  typ := by show typeIn (hd02.heap_39 w.params) (.ref 71) = _; k_is
  fn := ⟨_, _, _, _, by show List.lookup 71 (hd02.heap_39 w.params) = _; k_is⟩
  other := fun f => by cases f <;> decide +kernel
theorem f_getEncoding (G : Gd (cx w h0 mg mb)) : ImplF (cx w h0 mg mb) (n + 1) 71 (getF .enc) := getter_ok G cls (x := "self") (f := .enc) ⟨⟨_, _, _, by show List.lookup 71 (hd02.heap_39 w.params) = _; k_is⟩, rfl, rfl, rfl, rfl, by show codeIn (hd02.heap_39 w.params) _ _ = true; k_is, rfl, rfl, rfl, fun vals h => match vals, h with | [_], _ => rfl, by decide +kernel, by decide +kernel⟩ (by decide +kernel)
theorem m_setEncoding : MethIs (cx w h0 mg mb) "setEncoding" 64 where
  find := by show findIn (hd02.heap_39 w.params) (.ref 102) (Str.ofString "setEncoding") = _; k_is
  typ := by show typeIn (hd02.heap_39 w.params) (.ref 64) = _; k_is
  fn := ⟨_, _, _, _, by show List.lookup 64 (hd02.heap_39 w.params) = _; k_is⟩
  other := fun f => by cases f <;> decide +kernel
theorem f_setEncoding (G : Gd (cx w h0 mg mb)) : ImplF (cx w h0 mg mb) (n + 1) 64 (setF .enc) := setter_ok G cls (x := "self") (y := "encoding") (f := .enc) ⟨⟨_, _, _, by show List.lookup 64 (hd02.heap_39 w.params) = _; k_is⟩, rfl, rfl, rfl, rfl, by show codeIn (hd02.heap_39 w.params) _ _ = true; k_is, rfl, rfl, rfl, fun vals h => match vals, h with | [_, _], _ => rfl, by decide +kernel, by decide +kernel⟩ (by decide +kernel) (by decide +kernel)
theorem m_getByteStream : MethIs (cx w h0 mg mb) "getByteStream" 85 where
  find := by show findIn (hd02.heap_39 w.params) (.ref 102) (Str.ofString "getByteStream") = _; k_is
  typ := by show typeIn (hd02.heap_39 w.params) (.ref 85) = _; k_is
  fn := ⟨_, _, _, _, by show List.lookup 85 (hd02.heap_39 w.params) = _; k_is⟩
  other := fun f => by cases f <;> decide +kernel
theorem f_getByteStream (G : Gd (cx w h0 mg mb)) : ImplF (cx w h0 mg mb) (n + 1) 85 (getF .byt) := getter_ok G cls (x := "self") (f := .byt) ⟨⟨_, _, _, by show List.lookup 85 (hd02.heap_39 w.params) = _; k_is⟩, rfl, rfl, rfl, rfl, by show codeIn (hd02.heap_39 w.params) _ _ = true; k_is, rfl, rfl, rfl, fun vals h => match vals, h with | [_], _ => rfl, by decide +kernel, by decide +kernel⟩ (by decide +kernel)
theorem m_setByteStream : MethIs (cx w h0 mg mb) "setByteStream" 78 where
  find := by show findIn (hd02.heap_39 w.params) (.ref 102) (Str.ofString "setByteStream") = _; k_is
  typ := by show typeIn (hd02.heap_39 w.params) (.ref 78) = _; k_is
  fn := ⟨_, _, _, _, by show List.lookup 78 (hd02.heap_39 w.params) = _; k_is⟩
  other := fun f => by cases f <;> decide +kernel
theorem f_setByteStream (G : Gd (cx w h0 mg mb)) : ImplF (cx w h0 mg mb) (n + 1) 78 (setF .byt) := setter_ok G cls (x := "self") (y := "bytefile") (f := .byt) ⟨⟨_, _, _, by show List.lookup 78 (hd02.heap_39 w.params) = _; k_is⟩, rfl, rfl, rfl, rfl, by show codeIn (hd02.heap_39 w.params) _ _ = true; k_is, rfl, rfl, rfl, fun vals h => match vals, h with | [_, _], _ => rfl, by decide +kernel, by decide +kernel⟩ (by decide +kernel) (by decide +kernel)
theorem m_getCharacterStream : MethIs (cx w h0 mg mb) "getCharacterStream" 99 where
  find := by show findIn (hd02.heap_39 w.params) (.ref 102) (Str.ofString "getCharacterStream") = _; k_is
  typ := by show typeIn (hd02.heap_39 w.params) (.ref 99) = _; k_is
  fn := ⟨_, _, _, _, by show List.lookup 99 (hd02.heap_39 w.params) = _; k_is⟩
  other := fun f => by cases f <;> decide +kernel
theorem f_getCharacterStream (G : Gd (cx w h0 mg mb)) : ImplF (cx w h0 mg mb) (n + 1) 99 (getF .chr) := getter_ok G cls (x := "self") (f := .chr) ⟨⟨_, _, _, by show List.lookup 99 (hd02.heap_39 w.params) = _; k_is⟩, rfl, rfl, rfl, rfl, by show codeIn (hd02.heap_39 w.params) _ _ = true; k_is, rfl, rfl, rfl, fun vals h => match vals, h with | [_], _ => rfl, by decide +kernel, by decide +kernel⟩ (by decide +kernel)
theorem m_setCharacterStream : MethIs (cx w h0 mg mb) "setCharacterStream" 92 where
  find := by show findIn (hd02.heap_39 w.params) (.ref 102) (Str.ofString "setCharacterStream") = _; k_is
  typ := by show typeIn (hd02.heap_39 w.params) (.ref 92) = _; k_is
  fn := ⟨_, _, _, _, by show List.lookup 92 (hd02.heap_39 w.params) = _; k_is⟩
  other := fun f => by cases f <;> decide +kernel
theorem f_setCharacterStream (G : Gd (cx w h0 mg mb)) : ImplF (cx w h0 mg mb) (n + 1) 92 (setF .chr) := setter_ok G cls (x := "self") (y := "charfile") (f := .chr) ⟨⟨_, _, _, by show List.lookup 92 (hd02.heap_39 w.params) = _; k_is⟩, rfl, rfl, rfl, rfl, by show codeIn (hd02.heap_39 w.params) _ _ = true; k_is, rfl, rfl, rfl, fun vals h => match vals, h with | [_, _], _ => rfl, by decide +kernel, by decide +kernel⟩ (by decide +kernel) (by decide +kernel)
theorem init : ∃ fd body, InitIs (cx w h0 mg mb) 29 fd body "self" "system_id" :=
  ⟨_, _, by show findIn (hd02.heap_39 w.params) (.ref 102) (Str.ofString "__init__") = _; k_is, by show typeIn (hd02.heap_39 w.params) (.ref 29) = _; k_is, ⟨_, _, _, by show List.lookup 29 (hd02.heap_39 w.params) = _; k_is⟩, rfl, by show codeIn (hd02.heap_39 w.params) _ _ = true; k_is, rfl, rfl, rfl, by decide, fun _ _ => rfl, fun _ _ _ => rfl, rfl, rfl, by decide, by decide +kernel, by decide +kernel, ⟨_, _, _, _, _, _, _, _, _, _, _, _, _, _, _, _, _, _, _, _, _, _, _, _, rfl⟩⟩
theorem g_InputSource (G : Gd (cx w h0 mg mb)) : (cx w h0 mg mb).Glob "InputSource" (.ref 102) := .inl (mg_of (K := hd02.heap_39 w.params) G.inK G.g (by show nsIn (hd02.heap_39 w.params) mainGlobals (Str.ofString "InputSource") = _; k_is))
theorem r_law_put : ∃ oc od fd osl, (cx w h0 mg mb).K.lookup 127 = some ⟨oc, od, .func fd, osl⟩ := ⟨_, _, _, _, by show List.lookup 127 (hd02.heap_39 w.params) = _; k_is⟩
theorem g_law_put (G : Gd (cx w h0 mg mb)) : (cx w h0 mg mb).Glob "_law_put" (.ref 127) := .inl (mg_of (K := hd02.heap_39 w.params) G.inK G.g (by show nsIn (hd02.heap_39 w.params) mainGlobals (Str.ofString "_law_put") = _; k_is))
theorem r_law_take : ∃ oc od fd osl, (cx w h0 mg mb).K.lookup 134 = some ⟨oc, od, .func fd, osl⟩ := ⟨_, _, _, _, by show List.lookup 134 (hd02.heap_39 w.params) = _; k_is⟩
theorem g_law_take (G : Gd (cx w h0 mg mb)) : (cx w h0 mg mb).Glob "_law_take" (.ref 134) := .inl (mg_of (K := hd02.heap_39 w.params) G.inK G.g (by show nsIn (hd02.heap_39 w.params) mainGlobals (Str.ofString "_law_take") = _; k_is))
theorem r_law_told : ∃ oc od fd osl, (cx w h0 mg mb).K.lookup 113 = some ⟨oc, od, .func fd, osl⟩ := ⟨_, _, _, _, by show List.lookup 113 (hd02.heap_39 w.params) = _; k_is⟩
theorem g_law_told (G : Gd (cx w h0 mg mb)) : (cx w h0 mg mb).Glob "_law_told" (.ref 113) := .inl (mg_of (K := hd02.heap_39 w.params) G.inK G.g (by show nsIn (hd02.heap_39 w.params) mainGlobals (Str.ofString "_law_told") = _; k_is))
theorem r_law_washed : ∃ oc od fd osl, (cx w h0 mg mb).K.lookup 120 = some ⟨oc, od, .func fd, osl⟩ := ⟨_, _, _, _, by show List.lookup 120 (hd02.heap_39 w.params) = _; k_is⟩
theorem g_law_washed (G : Gd (cx w h0 mg mb)) : (cx w h0 mg mb).Glob "_law_washed" (.ref 120) := .inl (mg_of (K := hd02.heap_39 w.params) G.inK G.g (by show nsIn (hd02.heap_39 w.params) mainGlobals (Str.ofString "_law_washed") = _; k_is))
theorem g_enumerate (G : Gd (cx w h0 mg mb)) (hB : ∀ x : Str, x ≠ "__name__" → mb x = bootBuiltins x) : (cx w h0 mg mb).Glob "enumerate" (.type "enumerate") := .inr ⟨mg_none_of (K := hd02.heap_39 w.params) G.inK G.g (by show nsIn (hd02.heap_39 w.params) mainGlobals (Str.ofString "enumerate") = _; k_is), (hB "enumerate" (by decide +kernel)).trans (by rfl)⟩
theorem g_len (G : Gd (cx w h0 mg mb)) (hB : ∀ x : Str, x ≠ "__name__" → mb x = bootBuiltins x) : (cx w h0 mg mb).Glob "len" (.builtin "len") := .inr ⟨mg_none_of (K := hd02.heap_39 w.params) G.inK G.g (by show nsIn (hd02.heap_39 w.params) mainGlobals (Str.ofString "len") = _; k_is), (hB "len" (by decide +kernel)).trans (by rfl)⟩
theorem g_type (G : Gd (cx w h0 mg mb)) (hB : ∀ x : Str, x ≠ "__name__" → mb x = bootBuiltins x) : (cx w h0 mg mb).Glob "type" (.type "type") := .inr ⟨mg_none_of (K := hd02.heap_39 w.params) G.inK G.g (by show nsIn (hd02.heap_39 w.params) mainGlobals (Str.ofString "type") = _; k_is), (hB "type" (by decide +kernel)).trans (by rfl)⟩
theorem e_new (G : Gd (cx w h0 mg mb)) {p0 pos : Pos} {es : List Expr} {fs : Cm (List AV)} (hx : sx.sc.names.lookup ("InputSource" : Str) = some .globalImplicit) (h1 : ImplEs (cx w h0 mg mb) (n + 1) sx es fs) (hp : es.all plainX = true := by rfl) : ImplE (cx w h0 mg mb) (n + 1) sx (.Call (.Name "InputSource" p0) es [] pos) (bd fs newM) :=
  let ⟨_, _, D⟩ := init; ImplE.new G cls D hx (g_InputSource G) h1 (hp := hp)
def B_law_told : Cm AF := thenM (retM (bd (consM (methM (var 0) (pu []) (getF .sys)) (consM (methM (var 0) (pu []) (getF .pub)) (consM (methM (var 0) (pu []) (getF .enc)) (consM (methM (var 0) (pu []) (getF .byt)) (consM (methM (var 0) (pu []) (getF .chr)) (pu [])))))) lstM))
  (pu .next)
def F_law_told : List AV → Cm AV := runFn 1 0 B_law_told
theorem k_law_told (G : Gd (cx w h0 mg mb)) (hB : ∀ x : Str, x ≠ "__name__" → mb x = bootBuiltins x) : ImplF (cx w h0 mg mb) (n + 2) 113 F_law_told :=
  fn_ok (names := ["source"]) (others := []) (g := B_law_told) G ⟨⟨_, _, _, by show List.lookup 113 (hd02.heap_39 w.params) = _; k_is⟩, rfl, rfl, rfl, rfl, by show codeIn (hd02.heap_39 w.params) _ _ = true; k_is, rfl, rfl, rfl, fun vals h => match vals, h with | [_], _ => rfl, by decide +kernel, by decide +kernel⟩
  (ImplS.cons (ImplS1.ret (ImplE.list (ImplEs.cons (ImplE.meth G cls m_getSystemId (ImplE.name (i := 0) rfl (by decide +kernel)) (ImplEs.nil) (f_getSystemId G)) (ImplEs.cons (ImplE.meth G cls m_getPublicId (ImplE.name (i := 0) rfl (by decide +kernel)) (ImplEs.nil) (f_getPublicId G)) (ImplEs.cons (ImplE.meth G cls m_getEncoding (ImplE.name (i := 0) rfl (by decide +kernel)) (ImplEs.nil) (f_getEncoding G)) (ImplEs.cons (ImplE.meth G cls m_getByteStream (ImplE.name (i := 0) rfl (by decide +kernel)) (ImplEs.nil) (f_getByteStream G)) (ImplEs.cons (ImplE.meth G cls m_getCharacterStream (ImplE.name (i := 0) rfl (by decide +kernel)) (ImplEs.nil) (f_getCharacterStream G)) (ImplEs.nil))))))))
  (ImplS.nil))
def B_law_washed_1 : Cm AF := thenM (asgM (bd (consM (methM (var 0) (consM (var 1) (pu [])) (setF .sys)) (consM (methM (var 0) (consM (var 1) (pu [])) (setF .pub)) (consM (methM (var 0) (consM (var 1) (pu [])) (setF .enc)) (consM (methM (var 0) (consM (var 1) (pu [])) (setF .byt)) (consM (methM (var 0) (consM (var 1) (pu [])) (setF .chr)) (pu [])))))) lstM) (setV 2))
  (thenM (iteM (orM (cmp2 (var 2) (bin2 (bd (consM (pu .none) (pu [])) lstM) (pu (.int 5)) mulLM) neM) (orM (cmp2 (bd (consM (var 0) (pu [])) (callM F_law_told)) (bin2 (bd (consM (var 1) (pu [])) lstM) (pu (.int 5)) mulLM) neM) (pu false))) (thenM (retM (pu (.bool false)))
  (pu .next)) (pu .next))
  (pu .next))
def B_law_washed : Cm AF := thenM (forM' (bd (bd (consM (pu (.str "x")) (consM (pu (.str "")) (consM (pu .none) (pu [])))) lstM) lstIt) sizeL nxL (setV 1) (B_law_washed_1))
  (thenM (retM (pu (.bool true)))
  (pu .next))
def F_law_washed : List AV → Cm AV := runFn 1 2 B_law_washed
theorem k_law_washed (G : Gd (cx w h0 mg mb)) (hB : ∀ x : Str, x ≠ "__name__" → mb x = bootBuiltins x) : ImplF (cx w h0 mg mb) (n + 3) 120 F_law_washed :=
  fn_ok (names := ["source"]) (others := ["value", "answers"]) (g := B_law_washed) G ⟨⟨_, _, _, by show List.lookup 120 (hd02.heap_39 w.params) = _; k_is⟩, rfl, rfl, rfl, rfl, by show codeIn (hd02.heap_39 w.params) _ _ = true; k_is, rfl, rfl, rfl, fun vals h => match vals, h with | [_], _ => rfl, by decide +kernel, by decide +kernel⟩
  (ImplS.cons (ImplS1.for (size := sizeL) (ImplI.list (ImplE.list (ImplEs.cons (ImplE.cstr) (ImplEs.cons (ImplE.cstr) (ImplEs.cons (ImplE.cnone) (ImplEs.nil)))))) (ImplA.name (i := 1) rfl (by decide +kernel)) (ImplS.cons (ImplS1.assign (ImplE.list (ImplEs.cons (ImplE.meth G cls m_setSystemId (ImplE.name (i := 0) rfl (by decide +kernel)) (ImplEs.cons (ImplE.name (i := 1) rfl (by decide +kernel)) (ImplEs.nil)) (f_setSystemId G)) (ImplEs.cons (ImplE.meth G cls m_setPublicId (ImplE.name (i := 0) rfl (by decide +kernel)) (ImplEs.cons (ImplE.name (i := 1) rfl (by decide +kernel)) (ImplEs.nil)) (f_setPublicId G)) (ImplEs.cons (ImplE.meth G cls m_setEncoding (ImplE.name (i := 0) rfl (by decide +kernel)) (ImplEs.cons (ImplE.name (i := 1) rfl (by decide +kernel)) (ImplEs.nil)) (f_setEncoding G)) (ImplEs.cons (ImplE.meth G cls m_setByteStream (ImplE.name (i := 0) rfl (by decide +kernel)) (ImplEs.cons (ImplE.name (i := 1) rfl (by decide +kernel)) (ImplEs.nil)) (f_setByteStream G)) (ImplEs.cons (ImplE.meth G cls m_setCharacterStream (ImplE.name (i := 0) rfl (by decide +kernel)) (ImplEs.cons (ImplE.name (i := 1) rfl (by decide +kernel)) (ImplEs.nil)) (f_setCharacterStream G)) (ImplEs.nil))))))) (ImplA.name (i := 2) rfl (by decide +kernel)))
  (ImplS.cons (ImplS1.ite (ImplT.bool (ImplTs.or (ImplT.cmp (ImplE.name (i := 2) rfl (by decide +kernel)) (ImplE.bin (ImplE.list (ImplEs.cons (ImplE.cnone) (ImplEs.nil))) (ImplE.cint) mulL_ok) ne_ok) (ImplTs.or (ImplT.cmp (ImplE.callFn G rfl (g_law_told G) r_law_told (ImplEs.cons (ImplE.name (i := 0) rfl (by decide +kernel)) (ImplEs.nil)) (k_law_told G hB)) (ImplE.bin (ImplE.list (ImplEs.cons (ImplE.name (i := 1) rfl (by decide +kernel)) (ImplEs.nil))) (ImplE.cint) mulL_ok) ne_ok) (ImplTs.orNil)))) (ImplS.cons (ImplS1.ret (ImplE.cbool))
  (ImplS.nil)) (ImplS.nil))
  (ImplS.nil))))
  (ImplS.cons (ImplS1.ret (ImplE.cbool))
  (ImplS.nil)))
def B_law_put : Cm AF := thenM (asgM (bd (consM (var 1) (pu [])) newM) (setV 3))
  (thenM (asgM (bd (consM (methM (var 3) (consM (var 2) (pu [])) (setF .pub)) (consM (methM (var 3) (consM (methM (var 0) (pu []) (getF .byt)) (pu [])) (setF .byt)) (consM (methM (var 0) (consM (var 3) (pu [])) (setF .byt)) (pu [])))) lstM) (setV 4))
  (thenM (retM (bin2 (var 4) (bd (consM (methM (var 0) (consM (var 1) (pu [])) (setF .sys)) (consM (methM (var 0) (consM (bin2 (methM (var 0) (pu []) (getF .pub)) (pu (.int 1)) addM) (pu [])) (setF .pub)) (pu []))) lstM) addM))
  (pu .next)))
def F_law_put : List AV → Cm AV := runFn 3 2 B_law_put
theorem k_law_put (G : Gd (cx w h0 mg mb)) (hB : ∀ x : Str, x ≠ "__name__" → mb x = bootBuiltins x) : ImplF (cx w h0 mg mb) (n + 2) 127 F_law_put :=
  fn_ok (names := ["queue", "value", "turn"]) (others := ["cell", "answers"]) (g := B_law_put) G ⟨⟨_, _, _, by show List.lookup 127 (hd02.heap_39 w.params) = _; k_is⟩, rfl, rfl, rfl, rfl, by show codeIn (hd02.heap_39 w.params) _ _ = true; k_is, rfl, rfl, rfl, fun vals h => match vals, h with | [_, _, _], _ => rfl, by decide +kernel, by decide +kernel⟩
  (ImplS.cons (ImplS1.assign (e_new G rfl (ImplEs.cons (ImplE.name (i := 1) rfl (by decide +kernel)) (ImplEs.nil))) (ImplA.name (i := 3) rfl (by decide +kernel)))
  (ImplS.cons (ImplS1.assign (ImplE.list (ImplEs.cons (ImplE.meth G cls m_setPublicId (ImplE.name (i := 3) rfl (by decide +kernel)) (ImplEs.cons (ImplE.name (i := 2) rfl (by decide +kernel)) (ImplEs.nil)) (f_setPublicId G)) (ImplEs.cons (ImplE.meth G cls m_setByteStream (ImplE.name (i := 3) rfl (by decide +kernel)) (ImplEs.cons (ImplE.meth G cls m_getByteStream (ImplE.name (i := 0) rfl (by decide +kernel)) (ImplEs.nil) (f_getByteStream G)) (ImplEs.nil)) (f_setByteStream G)) (ImplEs.cons (ImplE.meth G cls m_setByteStream (ImplE.name (i := 0) rfl (by decide +kernel)) (ImplEs.cons (ImplE.name (i := 3) rfl (by decide +kernel)) (ImplEs.nil)) (f_setByteStream G)) (ImplEs.nil))))) (ImplA.name (i := 4) rfl (by decide +kernel)))
  (ImplS.cons (ImplS1.ret (ImplE.bin (ImplE.name (i := 4) rfl (by decide +kernel)) (ImplE.list (ImplEs.cons (ImplE.meth G cls m_setSystemId (ImplE.name (i := 0) rfl (by decide +kernel)) (ImplEs.cons (ImplE.name (i := 1) rfl (by decide +kernel)) (ImplEs.nil)) (f_setSystemId G)) (ImplEs.cons (ImplE.meth G cls m_setPublicId (ImplE.name (i := 0) rfl (by decide +kernel)) (ImplEs.cons (ImplE.bin (ImplE.meth G cls m_getPublicId (ImplE.name (i := 0) rfl (by decide +kernel)) (ImplEs.nil) (f_getPublicId G)) (ImplE.cint) add_ok) (ImplEs.nil)) (f_setPublicId G)) (ImplEs.nil)))) add_ok))
  (ImplS.nil))))
def B_law_take_1 : Cm AF := thenM (asgM (methM (var 3) (pu []) (getF .byt)) (setV 4))
  (thenM (dropM (lmethM (var 2) (consM (methM (var 3) (consM (pu .none) (pu [])) (setF .byt)) (pu [])) appendM))
  (thenM (dropM (lmethM (var 2) (consM (methM (var 3) (consM (methM (var 0) (pu []) (getF .chr)) (pu [])) (setF .chr)) (pu [])) appendM))
  (thenM (dropM (lmethM (var 2) (consM (methM (var 0) (consM (var 3) (pu [])) (setF .chr)) (pu [])) appendM))
  (thenM (asgM (var 4) (setV 3))
  (pu .next)))))
def B_law_take : Cm AF := thenM (asgM (bd (pu []) newLob) (setV 2))
  (thenM (iteM (cmp2 (methM (var 0) (pu []) (getF .chr)) (pu .none) isM) (thenM (asgM (methM (var 0) (pu []) (getF .byt)) (setV 3))
  (thenM (whileM (fun st => st.ins.length + 2) (cmp2 (var 3) (pu .none) isNotM) (B_law_take_1))
  (thenM (dropM (lmethM (var 2) (consM (methM (var 0) (consM (pu .none) (pu [])) (setF .byt)) (pu [])) appendM))
  (pu .next)))) (pu .next))
  (thenM (asgM (methM (var 0) (pu []) (getF .chr)) (setV 3))
  (thenM (iteM (cmp2 (var 3) (pu .none) isNotM) (thenM (dropM (lmethM (var 2) (consM (methM (var 3) (consM (var 1) (pu [])) (setF .enc)) (pu [])) appendM))
  (thenM (dropM (lmethM (var 2) (consM (methM (var 0) (consM (methM (var 3) (pu []) (getF .chr)) (pu [])) (setF .chr)) (pu [])) appendM))
  (thenM (dropM (lmethM (var 2) (consM (methM (var 3) (consM (pu .none) (pu [])) (setF .chr)) (pu [])) appendM))
  (thenM (dropM (lmethM (var 2) (consM (methM (var 0) (consM (methM (var 3) (pu []) (getF .sys)) (pu [])) (setF .enc)) (pu [])) appendM))
  (thenM (dropM (lmethM (var 2) (consM (methM (var 0) (consM (bin2 (methM (var 0) (pu []) (getF .pub)) (pu (.int 1)) subM) (pu [])) (setF .pub)) (pu [])) appendM))
  (pu .next)))))) (pu .next))
  (thenM (retM (bd (consM (var 3) (consM (var 2) (pu []))) tupM))
  (pu .next)))))
def F_law_take : List AV → Cm AV := runFn 2 3 B_law_take
theorem k_law_take (G : Gd (cx w h0 mg mb)) (hB : ∀ x : Str, x ≠ "__name__" → mb x = bootBuiltins x) : ImplF (cx w h0 mg mb) (n + 2) 134 F_law_take :=
  fn_ok (names := ["queue", "turn"]) (others := ["answers", "cell", "after"]) (g := B_law_take) G ⟨⟨_, _, _, by show List.lookup 134 (hd02.heap_39 w.params) = _; k_is⟩, rfl, rfl, rfl, rfl, by show codeIn (hd02.heap_39 w.params) _ _ = true; k_is, rfl, rfl, rfl, fun vals h => match vals, h with | [_, _], _ => rfl, by decide +kernel, by decide +kernel⟩
  (ImplS.cons (ImplS1.assign (ImplE.listMut (ImplEs.nil)) (ImplA.name (i := 2) rfl (by decide +kernel)))
  (ImplS.cons (ImplS1.ite (ImplT.cmp (ImplE.meth G cls m_getCharacterStream (ImplE.name (i := 0) rfl (by decide +kernel)) (ImplEs.nil) (f_getCharacterStream G)) (ImplE.cnone) is_ok) (ImplS.cons (ImplS1.assign (ImplE.meth G cls m_getByteStream (ImplE.name (i := 0) rfl (by decide +kernel)) (ImplEs.nil) (f_getByteStream G)) (ImplA.name (i := 3) rfl (by decide +kernel)))
  (ImplS.cons (ImplS1.while (size := fun st => st.ins.length + 2) (ImplT.cmp (ImplE.name (i := 3) rfl (by decide +kernel)) (ImplE.cnone) isNot_ok) (ImplS.cons (ImplS1.assign (ImplE.meth G cls m_getByteStream (ImplE.name (i := 3) rfl (by decide +kernel)) (ImplEs.nil) (f_getByteStream G)) (ImplA.name (i := 4) rfl (by decide +kernel)))
  (ImplS.cons (ImplS1.expr (ImplE.lmeth PySem.F.slot_list_append rfl (ImplE.name (i := 2) rfl (by decide +kernel)) (ImplEs.cons (ImplE.meth G cls m_setByteStream (ImplE.name (i := 3) rfl (by decide +kernel)) (ImplEs.cons (ImplE.cnone) (ImplEs.nil)) (f_setByteStream G)) (ImplEs.nil)) append_ok))
  (ImplS.cons (ImplS1.expr (ImplE.lmeth PySem.F.slot_list_append rfl (ImplE.name (i := 2) rfl (by decide +kernel)) (ImplEs.cons (ImplE.meth G cls m_setCharacterStream (ImplE.name (i := 3) rfl (by decide +kernel)) (ImplEs.cons (ImplE.meth G cls m_getCharacterStream (ImplE.name (i := 0) rfl (by decide +kernel)) (ImplEs.nil) (f_getCharacterStream G)) (ImplEs.nil)) (f_setCharacterStream G)) (ImplEs.nil)) append_ok))
  (ImplS.cons (ImplS1.expr (ImplE.lmeth PySem.F.slot_list_append rfl (ImplE.name (i := 2) rfl (by decide +kernel)) (ImplEs.cons (ImplE.meth G cls m_setCharacterStream (ImplE.name (i := 0) rfl (by decide +kernel)) (ImplEs.cons (ImplE.name (i := 3) rfl (by decide +kernel)) (ImplEs.nil)) (f_setCharacterStream G)) (ImplEs.nil)) append_ok))
  (ImplS.cons (ImplS1.assign (ImplE.name (i := 4) rfl (by decide +kernel)) (ImplA.name (i := 3) rfl (by decide +kernel)))
  (ImplS.nil)))))))
  (ImplS.cons (ImplS1.expr (ImplE.lmeth PySem.F.slot_list_append rfl (ImplE.name (i := 2) rfl (by decide +kernel)) (ImplEs.cons (ImplE.meth G cls m_setByteStream (ImplE.name (i := 0) rfl (by decide +kernel)) (ImplEs.cons (ImplE.cnone) (ImplEs.nil)) (f_setByteStream G)) (ImplEs.nil)) append_ok))
  (ImplS.nil)))) (ImplS.nil))
  (ImplS.cons (ImplS1.assign (ImplE.meth G cls m_getCharacterStream (ImplE.name (i := 0) rfl (by decide +kernel)) (ImplEs.nil) (f_getCharacterStream G)) (ImplA.name (i := 3) rfl (by decide +kernel)))
  (ImplS.cons (ImplS1.ite (ImplT.cmp (ImplE.name (i := 3) rfl (by decide +kernel)) (ImplE.cnone) isNot_ok) (ImplS.cons (ImplS1.expr (ImplE.lmeth PySem.F.slot_list_append rfl (ImplE.name (i := 2) rfl (by decide +kernel)) (ImplEs.cons (ImplE.meth G cls m_setEncoding (ImplE.name (i := 3) rfl (by decide +kernel)) (ImplEs.cons (ImplE.name (i := 1) rfl (by decide +kernel)) (ImplEs.nil)) (f_setEncoding G)) (ImplEs.nil)) append_ok))
  (ImplS.cons (ImplS1.expr (ImplE.lmeth PySem.F.slot_list_append rfl (ImplE.name (i := 2) rfl (by decide +kernel)) (ImplEs.cons (ImplE.meth G cls m_setCharacterStream (ImplE.name (i := 0) rfl (by decide +kernel)) (ImplEs.cons (ImplE.meth G cls m_getCharacterStream (ImplE.name (i := 3) rfl (by decide +kernel)) (ImplEs.nil) (f_getCharacterStream G)) (ImplEs.nil)) (f_setCharacterStream G)) (ImplEs.nil)) append_ok))
  (ImplS.cons (ImplS1.expr (ImplE.lmeth PySem.F.slot_list_append rfl (ImplE.name (i := 2) rfl (by decide +kernel)) (ImplEs.cons (ImplE.meth G cls m_setCharacterStream (ImplE.name (i := 3) rfl (by decide +kernel)) (ImplEs.cons (ImplE.cnone) (ImplEs.nil)) (f_setCharacterStream G)) (ImplEs.nil)) append_ok))
  (ImplS.cons (ImplS1.expr (ImplE.lmeth PySem.F.slot_list_append rfl (ImplE.name (i := 2) rfl (by decide +kernel)) (ImplEs.cons (ImplE.meth G cls m_setEncoding (ImplE.name (i := 0) rfl (by decide +kernel)) (ImplEs.cons (ImplE.meth G cls m_getSystemId (ImplE.name (i := 3) rfl (by decide +kernel)) (ImplEs.nil) (f_getSystemId G)) (ImplEs.nil)) (f_setEncoding G)) (ImplEs.nil)) append_ok))
  (ImplS.cons (ImplS1.expr (ImplE.lmeth PySem.F.slot_list_append rfl (ImplE.name (i := 2) rfl (by decide +kernel)) (ImplEs.cons (ImplE.meth G cls m_setPublicId (ImplE.name (i := 0) rfl (by decide +kernel)) (ImplEs.cons (ImplE.bin (ImplE.meth G cls m_getPublicId (ImplE.name (i := 0) rfl (by decide +kernel)) (ImplEs.nil) (f_getPublicId G)) (ImplE.cint) sub_ok) (ImplEs.nil)) (f_setPublicId G)) (ImplEs.nil)) append_ok))
  (ImplS.nil)))))) (ImplS.nil))
  (ImplS.cons (ImplS1.ret (ImplE.tuple (ImplEs.cons (ImplE.name (i := 3) rfl (by decide +kernel)) (ImplEs.cons (ImplE.name (i := 2) rfl (by decide +kernel)) (ImplEs.nil)))))
  (ImplS.nil))))))
def B_law_1 : Cm AF := thenM (iteM (cmp2 (bin2 (var 8) (pu (.int 3)) modM) (pu (.int 2)) ltM) (thenM (asgM (bin2 (bd (consM (pu (.int 0)) (consM (pu (.str "")) (consM (pu (.str "a")) (consM (pu (.bytes (List.toArray []))) (consM (pu .none) (pu [])))))) lstM) (bin2 (bin2 (var 8) (pu (.int 3)) divM) (pu (.int 5)) modM) getItemM) (setV 5))
  (thenM (dropM (lmethM (var 4) (consM (bd (consM (var 5) (consM (var 7) (pu []))) tupM) (pu [])) appendM))
  (thenM (dropM (lmethM (var 1) (consM (bd (consM (var 3) (consM (var 5) (consM (var 7) (pu [])))) (callM F_law_put)) (pu [])) extendM))
  (pu .next)))) (thenM (asgM (bd (consM (var 3) (consM (var 7) (pu []))) (callM F_law_take)) (unpackM 2 (consA (setV 9) (consA (setV 10) (nilA)))))
  (thenM (dropM (lmethM (var 1) (consM (var 10) (pu [])) extendM))
  (thenM (iteM (cmp2 (var 4) (bd (pu []) lstM) eqM) (thenM (iteM (cmp2 (var 9) (pu .none) isNotM) (thenM (retM (pu (.bool false)))
  (pu .next)) (pu .next))
  (pu .next)) (thenM (asgM (lmethM (var 4) (consM (pu (.int 0)) (pu [])) popM) (unpackM 2 (consA (setV 6) (consA (setV 12) (nilA)))))
  (thenM (asgM (bd (consM (var 9) (pu [])) (callM F_law_told)) (setV 11))
  (thenM (iteM (orM (cmp2 (var 11) (bd (consM (var 6) (consM (var 12) (consM (var 7) (consM (pu .none) (consM (pu .none) (pu [])))))) lstM) neM) (orM (cmp2 (bd (consM (bin2 (var 11) (pu (.int 0)) getItemM) (pu [])) typeM) (bd (consM (var 6) (pu [])) typeM) isNotM) (pu false))) (thenM (retM (pu (.bool false)))
  (pu .next)) (pu .next))
  (pu .next)))))
  (pu .next)))))
  (thenM (iteM (cmp2 (bd (consM (methM (var 3) (pu []) (getF .sys)) (consM (methM (var 3) (pu []) (getF .pub)) (consM (methM (var 3) (pu []) (getF .enc)) (pu [])))) lstM) (bd (consM (var 5) (consM (bd (consM (var 4) (pu [])) lenM) (consM (var 6) (pu [])))) lstM) neM) (thenM (retM (pu (.bool false)))
  (pu .next)) (pu .next))
  (pu .next))
def B_law : Cm AF := thenM (asgM (bd (consM (bd (pu []) newM) (consM (bd (pu []) newLob) (consM (pu .none) (consM (pu .none) (pu []))))) tupM) (unpackM 4 (consA (setV 3) (consA (setV 4) (consA (setV 5) (consA (setV 6) (nilA)))))))
  (thenM (iteM (orM (cmp2 (bd (consM (var 3) (pu [])) (callM F_law_told)) (bin2 (bd (consM (pu .none) (pu [])) lstM) (pu (.int 5)) mulLM) neM) (orM (notM (bd (bd (consM (var 3) (pu [])) (callM F_law_washed)) truthM)) (pu false))) (thenM (retM (pu (.bool false)))
  (pu .next)) (pu .next))
  (thenM (asgM (bd (consM (methM (var 3) (consM (pu (.int 0)) (pu [])) (setF .pub)) (pu [])) newLob) (setV 1))
  (thenM (asgM (bin2 (bd (consM (pu (.int 0)) (consM (pu (.int 4)) (consM (pu (.int 2)) (consM (pu (.int 9)) (consM (pu (.int 2)) (consM (pu (.int 2)) (consM (pu (.int 2)) (pu [])))))))) lstM) (var 0) addM) (setV 2))
  (thenM (forM' (bd (bd (bin2 (var 2) (bin2 (bd (consM (pu (.int 2)) (pu [])) lstM) (bd (consM (var 2) (pu [])) lenM) mulLM) addM) fun x => pu [x]) enumIt) sizeL nxL (unpackM 2 (consA (setV 7) (consA (setV 8) (nilA)))) (B_law_1))
  (thenM (retM (boolV (cmp2 (var 1) (bin2 (bd (consM (pu .none) (pu [])) lstM) (bd (consM (var 1) (pu [])) lenM) mulLM) eqM)))
  (pu .next))))))
def V_law : List Str := ["script", "answers", "steps", "queue", "waiting", "put", "taken", "turn", "x", "cell", "given", "told", "since"]
/- the law: level 3 -/
end

set_option linter.unusedSimpArgs false
/-! the plain law -/
def AV.isU : AV → Bool
  | .unb => true
  | _ => false
theorem var_eq (i : Nat) (st : AS) : var i st = match st.loc[i]? with | some v => if v.isU = true then .none else some (v, st) | .none => .none := by
  unfold var
  cases st.loc[i]? with
  | none => rfl
  | some v => cases v <;> rfl
theorem u_none : AV.none.isU = false := rfl
theorem u_bool (b : Bool) : (AV.bool b).isU = false := rfl
theorem u_int (i : Int) : (AV.int i).isU = false := rfl
theorem u_str (i : Str) : (AV.str i).isU = false := rfl
theorem u_bytes (i : Array UInt8) : (AV.bytes i).isU = false := rfl
theorem u_ins (i : Nat) : (AV.ins i).isU = false := rfl
theorem u_lob (i : Nat) : (AV.lob i).isU = false := rfl
theorem u_lst (i : List AV) : (AV.lst i).isU = false := rfl
theorem u_lsb (i : List AV) : (AV.lsb i).isU = false := rfl
theorem u_tup (i : List AV) : (AV.tup i).isU = false := rfl
/-- what is put: a plain value -/
def AV.pl : AV → Bool
  | .none => true
  | .int _ => true
  | .str _ => true
  | .bytes _ => true
  | _ => false
theorem pl_u {v : AV} (h : v.pl = true) : v.isU = false := by cases v <;> first | rfl | cases h
theorem pl_eq {v : AV} (h : v.pl = true) (st : AS) (d : Nat) : eqF st (d + 1) v v = some true := by cases v <;> first | simp [eqF]; done | cases h
theorem pl_frz {v : AV} (h : v.pl = true) (seg : List (Nat × List AV)) : frz0 seg v = v := by cases v <;> first | rfl | cases h
theorem pl_ty {v : AV} (h : v.pl = true) : ∃ t, typeF v = some t := by cases v <;> first | exact ⟨_, rfl⟩ | cases h

def nxt (a b : Nat) : AV := if a < b then .ins (a + 1) else .none
def prv (lo i : Nat) : AV := if lo < i then .ins i else .none
theorem nxt_u (a b : Nat) : (nxt a b).isU = false := by unfold nxt; split <;> rfl
theorem prv_u (a b : Nat) : (prv a b).isU = false := by unfold prv; split <;> rfl

theorem told_is {st : AS} {k : Nat} {i : Ins} (h : st.ins[k]? = some i) : callM F_law_told [.ins k] st = some (.lst [i.sys, i.pub, i.enc, i.byt, i.chr], st) := by
  simp [callM, F_law_told, runFn, B_law_told, thenM, retM, bd, consM, methM, var, pu, getF, attrM, lstM, endFn, h, Ins.get, frzV, frz0]

theorem put_is {st : AS} {q : Ins} {cs : List Ins} {v : AV} {t k : Int} (h : st.ins = q :: cs) (hv : v.pl = true) (hk : q.pub = .int k) :
    callM F_law_put [.ins 0, v, .int t] st = some (.lst [.none, .none, .none, .none, .none], { st with ins := ⟨v, .int (k + 1), q.enc, .ins (cs.length + 1), q.chr⟩ :: (cs ++ [⟨v, .int t, .none, q.byt, .none⟩]) }) := by
  have hu := pl_u hv
  simp [callM, F_law_put, runFn, B_law_put, thenM, asgM, retM, bd, consM, methM, var_eq, pu, getF, setF, attrM, putM, lstM, endFn, h, hk, hu, newM, blank, setV, u_none, u_bool, u_int, u_str, u_bytes, u_ins, u_lob, u_lst, u_lsb, u_tup, Ins.get, Ins.put, bin2, addM, addLM, itemsM, items2M, frzV, frz0]
  done

structure Frn (ps : List (AV × Int)) (cs : List Ins) (lo hi : Nat) : Prop where
  at_ : ∀ i, lo ≤ i → i < hi → ∃ p τ, ps[i]? = some (p, τ) ∧ cs[i]? = some ⟨p, .int τ, .none, .none, nxt (i + 1) hi⟩
structure Bck (ps : List (AV × Int)) (cs : List Ins) (lo hi : Nat) : Prop where
  at_ : ∀ i, lo ≤ i → i < hi → ∃ p τ, ps[i]? = some (p, τ) ∧ cs[i]? = some ⟨p, .int τ, .none, prv lo i, .none⟩

theorem turn_is {turn : Int} {k : Nat} {af : AV} {q : Ins} {cs : List Ins} {ans : List AV} {L : LH} {N i : Nat} {p b : AV} {τ : Int} (h : cs[i]? = some ⟨p, .int τ, .none, b, .none⟩) (hb : b.isU = false) (hl : ans.length + 3 ≤ 100000) :
    B_law_take_1 ⟨[.ins 0, .int turn, .lob k, .ins (i + 1), af], q :: cs, [(k, ans)] :: L, N⟩ =
      some (.next, ⟨[.ins 0, .int turn, .lob k, b, b], ⟨q.sys, q.pub, q.enc, q.byt, .ins (i + 1)⟩ :: cs.set i ⟨p, .int τ, .none, .none, q.chr⟩, [(k, ans ++ [.none, .none, .none])] :: L, N⟩) := by
  have hi : i < cs.length := (List.getElem?_eq_some_iff.mp h).1
  have h1 : ans.length ≤ 100000 := by omega
  have h2 : ans.length + 1 ≤ 100000 := by omega
  have h3 : ans.length + 1 + 1 ≤ 100000 := by omega
  have h' : cs[i] = ⟨p, .int τ, .none, b, .none⟩ := (List.getElem?_eq_some_iff.mp h).2
  simp [B_law_take_1, callM, runFn, thenM, asgM, retM, dropM, iteM, bd, consM, methM, lmethM, chkL, var_eq, pu, no, getF, setF, attrM, putM, lstM, tupM, endFn, newM, newLob, blank, setV, u_none, u_bool, u_int, u_str, u_bytes, u_ins, u_lob, u_lst, u_lsb, u_tup, Ins.get, Ins.put, bin2, cmp2, boolV, orM, andM, notM, truthM, addM, subM, modM, divM, ltM, gtM, addLM, mulLM, itemsM, items2M, lenM, getItemM, idxM, appendM, extendM, popM, getL1, putL1, lookL, putSeg, pushL1, unpackM, consA, nilA, swapM, isM, isNotM, isF, frzV, frz0, h', hb, hi, h1, h2, h3]

theorem loop_is {turn : Int} {k : Nat} {ps : List (AV × Int)} {f m : Nat} {L : LH} {N : Nat} (hm : m ≤ 200) : ∀ (d j fuel : Nat) (cs : List Ins) (q : Ins) (ans : List AV) (af : AV), j = f + d → j ≤ m → cs.length = m → Frn ps cs j m → Bck ps cs f j → q.chr = nxt j m → d < fuel → ans.length + 3 * d ≤ 1000 → (∀ x ∈ ans, x = .none) →
    ∃ cs' ans' af', whileG (cmp2 (var 3) (pu .none) isNotM) B_law_take_1 fuel ⟨[.ins 0, .int turn, .lob k, prv f j, af], q :: cs, [(k, ans)] :: L, N⟩ = some (.next, ⟨[.ins 0, .int turn, .lob k, .none, af'], ⟨q.sys, q.pub, q.enc, q.byt, nxt f m⟩ :: cs', [(k, ans')] :: L, N⟩) ∧
      cs'.length = m ∧ Frn ps cs' f m ∧ ans'.length = ans.length + 3 * d ∧ (∀ x ∈ ans', x = .none) := by
  intro d
  induction d with
  | zero =>
    intro j fuel cs q ans af hj hjm hcs hF hB hq hfu hal hann
    obtain ⟨fuel, rfl⟩ : ∃ x, fuel = x + 1 := ⟨fuel - 1, by omega⟩
    have hj' : j = f := by omega
    subst hj'
    have hp : prv j j = .none := if_neg (Nat.lt_irrefl _)
    refine ⟨cs, ans, af, ?_, hcs, hF, rfl, hann⟩
    rw [hp, ← hq]
    simp [whileG, callM, runFn, thenM, asgM, retM, dropM, iteM, bd, consM, methM, lmethM, chkL, var_eq, pu, no, getF, setF, attrM, putM, lstM, tupM, endFn, newM, newLob, blank, setV, u_none, u_bool, u_int, u_str, u_bytes, u_ins, u_lob, u_lst, u_lsb, u_tup, Ins.get, Ins.put, bin2, cmp2, boolV, orM, andM, notM, truthM, addM, subM, modM, divM, ltM, gtM, addLM, mulLM, itemsM, items2M, lenM, getItemM, idxM, appendM, extendM, popM, getL1, putL1, lookL, putSeg, pushL1, unpackM, consA, nilA, swapM, isM, isNotM, isF, frzV, frz0]
  | succ d ih =>
    intro j fuel cs q ans af hj hjm hcs hF hB hq hfu hal hann
    obtain ⟨fuel, rfl⟩ : ∃ x, fuel = x + 1 := ⟨fuel - 1, by omega⟩
    obtain ⟨i, rfl⟩ : ∃ x, j = x + 1 := ⟨j - 1, by omega⟩
    have hp : prv f (i + 1) = .ins (i + 1) := if_pos (by omega)
    obtain ⟨p, τ, hps, hc⟩ := hB.at_ i (by omega) (by omega)
    have step := turn_is (turn := turn) (k := k) (af := af) (q := q) (ans := ans) (L := L) (N := N) hc (prv_u _ _) (by omega)
    have hi : i < cs.length := by omega
    have hF' : Frn ps (cs.set i ⟨p, .int τ, .none, .none, q.chr⟩) i m := ⟨fun x hx1 hx2 => by
      by_cases hx : x = i
      · subst hx
        refine ⟨p, τ, hps, ?_⟩
        rw [List.getElem?_set_self hi, hq]
      · obtain ⟨p', τ', a1, a2⟩ := hF.at_ x (by omega) hx2
        exact ⟨p', τ', a1, by rw [List.getElem?_set_ne (Ne.symm hx)]; exact a2⟩⟩
    have hB' : Bck ps (cs.set i ⟨p, .int τ, .none, .none, q.chr⟩) f i := ⟨fun x hx1 hx2 => by
      obtain ⟨p', τ', a1, a2⟩ := hB.at_ x hx1 (by omega)
      exact ⟨p', τ', a1, by rw [List.getElem?_set_ne (by omega)]; exact a2⟩⟩
    obtain ⟨cs', ans', af', h1, h2, h3, h4, h5⟩ := ih i fuel (cs.set i ⟨p, .int τ, .none, .none, q.chr⟩) ⟨q.sys, q.pub, q.enc, q.byt, .ins (i + 1)⟩ (ans ++ [.none, .none, .none]) (prv f i) (by omega) (by omega) (by simpa using hcs) hF' hB' (by unfold nxt; rw [if_pos (by omega)]) (by omega) (by simp; omega) (fun x hx => (List.mem_append.mp hx).elim (hann x) (fun hx => by simpa using hx))
    refine ⟨cs', ans', af', ?_, h2, h3, by rw [h4]; simp; omega, h5⟩
    rw [hp]
    have e0 : cmp2 (var 3) (pu .none) isNotM ⟨[.ins 0, .int turn, .lob k, .ins (i + 1), af], q :: cs, [(k, ans)] :: L, N⟩ = some (true, ⟨[.ins 0, .int turn, .lob k, .ins (i + 1), af], q :: cs, [(k, ans)] :: L, N⟩) := by simp [callM, runFn, thenM, asgM, retM, dropM, iteM, bd, consM, methM, lmethM, chkL, var_eq, pu, no, getF, setF, attrM, putM, lstM, tupM, endFn, newM, newLob, blank, setV, u_none, u_bool, u_int, u_str, u_bytes, u_ins, u_lob, u_lst, u_lsb, u_tup, Ins.get, Ins.put, bin2, cmp2, boolV, orM, andM, notM, truthM, addM, subM, modM, divM, ltM, gtM, addLM, mulLM, itemsM, items2M, lenM, getItemM, idxM, appendM, extendM, popM, getL1, putL1, lookL, putSeg, pushL1, unpackM, consA, nilA, swapM, isM, isNotM, isF, frzV, frz0]
    rw [whileG, bd, e0]
    dsimp only
    rw [if_pos rfl, thenM, bd, step]
    exact h1

/-- between two turns of the law -/
structure JQ (t f m : Nat) (ps : List (AV × Int)) (cs : List Ins) (q : Ins) (put taken : AV) : Prop where
  tf : t ≤ f
  fm : f ≤ m
  len : ps.length = m
  lec : cs.length = m
  fr : Frn ps cs t f
  bk : Bck ps cs f m
  q_ : q = ⟨put, .int ((m : Int) - t), taken, prv f m, nxt t f⟩
  good : ∀ x ∈ ps, x.1.pl = true
  pp : put.pl = true
  tp : taken.pl = true

/-- the part of «take» behind the moving -/
def takeRest : Cm AF := thenM (asgM (methM (var 0) (pu []) (getF .chr)) (setV 3))
  (thenM (iteM (cmp2 (var 3) (pu .none) isNotM) (thenM (dropM (lmethM (var 2) (consM (methM (var 3) (consM (var 1) (pu [])) (setF .enc)) (pu [])) appendM))
  (thenM (dropM (lmethM (var 2) (consM (methM (var 0) (consM (methM (var 3) (pu []) (getF .chr)) (pu [])) (setF .chr)) (pu [])) appendM))
  (thenM (dropM (lmethM (var 2) (consM (methM (var 3) (consM (pu .none) (pu [])) (setF .chr)) (pu [])) appendM))
  (thenM (dropM (lmethM (var 2) (consM (methM (var 0) (consM (methM (var 3) (pu []) (getF .sys)) (pu [])) (setF .enc)) (pu [])) appendM))
  (thenM (dropM (lmethM (var 2) (consM (methM (var 0) (consM (bin2 (methM (var 0) (pu []) (getF .pub)) (pu (.int 1)) subM) (pu [])) (setF .pub)) (pu [])) appendM))
  (pu .next)))))) (pu .next))
  (thenM (retM (bd (consM (var 3) (consM (var 2) (pu []))) tupM))
  (pu .next)))
theorem rest_none {turn : Int} {k : Nat} {c0 af : AV} {q : Ins} {cs : List Ins} {ans : List AV} {L : LH} {N : Nat} (hq : q.chr = .none) :
    takeRest ⟨[.ins 0, .int turn, .lob k, c0, af], q :: cs, [(k, ans)] :: L, N⟩ = some (.ret (.tup [.none, .lob k]), ⟨[.ins 0, .int turn, .lob k, .none, af], q :: cs, [(k, ans)] :: L, N⟩) := by
  simp [takeRest, callM, runFn, thenM, asgM, retM, dropM, iteM, bd, consM, methM, lmethM, chkL, var_eq, pu, no, getF, setF, attrM, putM, lstM, tupM, endFn, newM, newLob, blank, setV, u_none, u_bool, u_int, u_str, u_bytes, u_ins, u_lob, u_lst, u_lsb, u_tup, Ins.get, Ins.put, bin2, cmp2, boolV, orM, andM, notM, truthM, addM, subM, modM, divM, ltM, gtM, addLM, mulLM, itemsM, items2M, lenM, getItemM, idxM, appendM, extendM, popM, getL1, putL1, lookL, putSeg, pushL1, unpackM, consA, nilA, swapM, isM, isNotM, isF, frzV, frz0, hq]
theorem rest_some {turn r : Int} {k i : Nat} {c0 af p b : AV} {τ : Int} {q : Ins} {cs : List Ins} {ans : List AV} {L : LH} {N : Nat} (hq : q.chr = .ins (i + 1)) (hr : q.pub = .int r) (h : cs[i]? = some ⟨p, .int τ, .none, .none, b⟩) (hb : b.isU = false) (hl : ans.length + 5 ≤ 100000) :
    takeRest ⟨[.ins 0, .int turn, .lob k, c0, af], q :: cs, [(k, ans)] :: L, N⟩ =
      some (.ret (.tup [.ins (i + 1), .lob k]), ⟨[.ins 0, .int turn, .lob k, .ins (i + 1), af], ⟨q.sys, .int (r - 1), p, q.byt, b⟩ :: cs.set i ⟨p, .int τ, .int turn, .none, .none⟩, [(k, ans ++ [.none, .none, .none, .none, .none])] :: L, N⟩) := by
  have hi : i < cs.length := (List.getElem?_eq_some_iff.mp h).1
  have h' : cs[i] = ⟨p, .int τ, .none, .none, b⟩ := (List.getElem?_eq_some_iff.mp h).2
  have h1 : ans.length ≤ 100000 := by omega
  have h2 : ans.length + 1 ≤ 100000 := by omega
  have h3 : ans.length + 1 + 1 ≤ 100000 := by omega
  have h4 : ans.length + 1 + 1 + 1 ≤ 100000 := by omega
  have h5 : ans.length + 1 + 1 + 1 + 1 ≤ 100000 := by omega
  simp [takeRest, callM, runFn, thenM, asgM, retM, dropM, iteM, bd, consM, methM, lmethM, chkL, var_eq, pu, no, getF, setF, attrM, putM, lstM, tupM, endFn, newM, newLob, blank, setV, u_none, u_bool, u_int, u_str, u_bytes, u_ins, u_lob, u_lst, u_lsb, u_tup, Ins.get, Ins.put, bin2, cmp2, boolV, orM, andM, notM, truthM, addM, subM, modM, divM, ltM, gtM, addLM, mulLM, itemsM, items2M, lenM, getItemM, idxM, appendM, extendM, popM, getL1, putL1, lookL, putSeg, pushL1, unpackM, consA, nilA, swapM, isM, isNotM, isF, frzV, frz0, hq, hr, h', hb, hi, h1, h2, h3, h4, h5]
def takeMove : Cm AF := iteM (cmp2 (methM (var 0) (pu []) (getF .chr)) (pu .none) isM) (thenM (asgM (methM (var 0) (pu []) (getF .byt)) (setV 3))
  (thenM (whileM (fun st => st.ins.length + 2) (cmp2 (var 3) (pu .none) isNotM) (B_law_take_1))
  (thenM (dropM (lmethM (var 2) (consM (methM (var 0) (consM (pu .none) (pu [])) (setF .byt)) (pu [])) appendM))
  (pu .next)))) (pu .next)
theorem take_parts : B_law_take = thenM (asgM (bd (pu []) newLob) (setV 2)) (thenM takeMove takeRest) := rfl

theorem move_is {turn : Int} {k : Nat} {t f m : Nat} {ps : List (AV × Int)} {cs : List Ins} {q : Ins} {put taken : AV} {L : LH} {N : Nat} (J : JQ t f m ps cs q put taken) (hm : m ≤ 200) :
    ∃ f' cs' q' ans' l3 l4, takeMove ⟨[.ins 0, .int turn, .lob k, .unb, .unb], q :: cs, [(k, [])] :: L, N⟩ = some (.next, ⟨[.ins 0, .int turn, .lob k, l3, l4], q' :: cs', [(k, ans')] :: L, N⟩) ∧
      JQ t f' m ps cs' q' put taken ∧ (t = f' → f' = m) ∧ ans'.length ≤ 601 ∧ (∀ x ∈ ans', x = .none) := by
  have hq := J.q_
  subst hq
  by_cases htf : t < f
  · refine ⟨f, cs, _, [], .unb, .unb, ?_, J, by omega, by simp, by simp⟩
    have e : nxt t f = .ins (t + 1) := if_pos htf
    simp [takeMove, callM, runFn, thenM, asgM, retM, dropM, iteM, bd, consM, methM, lmethM, chkL, var_eq, pu, no, getF, setF, attrM, putM, lstM, tupM, endFn, newM, newLob, blank, setV, u_none, u_bool, u_int, u_str, u_bytes, u_ins, u_lob, u_lst, u_lsb, u_tup, Ins.get, Ins.put, bin2, cmp2, boolV, orM, andM, notM, truthM, addM, subM, modM, divM, ltM, gtM, addLM, mulLM, itemsM, items2M, lenM, getItemM, idxM, appendM, extendM, popM, getL1, putL1, lookL, putSeg, pushL1, unpackM, consA, nilA, swapM, isM, isNotM, isF, frzV, frz0, e]
  · have e' : t = f := by have := J.tf; omega
    subst e'
    have e : nxt t t = .none := if_neg (Nat.lt_irrefl _)
    have hfm := J.fm
    obtain ⟨cs', ans', af', h1, h2, h3, h4, h5⟩ := loop_is (turn := turn) (k := k) (ps := ps) (f := t) (m := m) (L := L) (N := N) hm (m - t) m (m + 3) cs ⟨put, .int ((m : Int) - t), taken, prv t m, .none⟩ [] .unb (by omega) (Nat.le_refl _) J.lec ⟨fun i a b => by omega⟩ J.bk (by unfold nxt; rw [if_neg (Nat.lt_irrefl _)]) (by omega) (by simp; omega) (by simp)
    have hans : ans'.length ≤ 600 := by rw [h4]; simp; omega
    have hans' : ans'.length ≤ 100000 := by omega
    refine ⟨m, cs', ⟨put, .int ((m : Int) - t), taken, .none, nxt t m⟩, ans' ++ [.none], .none, af', ?_, ⟨hfm, Nat.le_refl _, J.len, h2, h3, ⟨fun i a b => by omega⟩, by unfold prv; rw [if_neg (Nat.lt_irrefl _)], J.good, J.pp, J.tp⟩, fun _ => rfl, by simp; omega, fun x hx => (List.mem_append.mp hx).elim (h5 x) (fun hx => by simpa using hx)⟩
    have e1 : cmp2 (methM (var 0) (pu []) (getF .chr)) (pu .none) isM ⟨[.ins 0, .int turn, .lob k, .unb, .unb], ⟨put, .int ((m : Int) - t), taken, prv t m, nxt t t⟩ :: cs, [(k, [])] :: L, N⟩ = some (true, ⟨[.ins 0, .int turn, .lob k, .unb, .unb], ⟨put, .int ((m : Int) - t), taken, prv t m, .none⟩ :: cs, [(k, [])] :: L, N⟩) := by simp [callM, runFn, thenM, asgM, retM, dropM, iteM, bd, consM, methM, lmethM, chkL, var_eq, pu, no, getF, setF, attrM, putM, lstM, tupM, endFn, newM, newLob, blank, setV, u_none, u_bool, u_int, u_str, u_bytes, u_ins, u_lob, u_lst, u_lsb, u_tup, Ins.get, Ins.put, bin2, cmp2, boolV, orM, andM, notM, truthM, addM, subM, modM, divM, ltM, gtM, addLM, mulLM, itemsM, items2M, lenM, getItemM, idxM, appendM, extendM, popM, getL1, putL1, lookL, putSeg, pushL1, unpackM, consA, nilA, swapM, isM, isNotM, isF, frzV, frz0, e]
    have e2 : asgM (methM (var 0) (pu []) (getF .byt)) (setV 3) ⟨[.ins 0, .int turn, .lob k, .unb, .unb], ⟨put, .int ((m : Int) - t), taken, prv t m, .none⟩ :: cs, [(k, [])] :: L, N⟩ = some (.next, ⟨[.ins 0, .int turn, .lob k, prv t m, .unb], ⟨put, .int ((m : Int) - t), taken, prv t m, .none⟩ :: cs, [(k, [])] :: L, N⟩) := by simp [callM, runFn, thenM, asgM, retM, dropM, iteM, bd, consM, methM, lmethM, chkL, var_eq, pu, no, getF, setF, attrM, putM, lstM, tupM, endFn, newM, newLob, blank, setV, u_none, u_bool, u_int, u_str, u_bytes, u_ins, u_lob, u_lst, u_lsb, u_tup, Ins.get, Ins.put, bin2, cmp2, boolV, orM, andM, notM, truthM, addM, subM, modM, divM, ltM, gtM, addLM, mulLM, itemsM, items2M, lenM, getItemM, idxM, appendM, extendM, popM, getL1, putL1, lookL, putSeg, pushL1, unpackM, consA, nilA, swapM, isM, isNotM, isF, frzV, frz0]
    have e3 : dropM (lmethM (var 2) (consM (methM (var 0) (consM (pu .none) (pu [])) (setF .byt)) (pu [])) appendM) ⟨[.ins 0, .int turn, .lob k, .none, af'], ⟨put, .int ((m : Int) - t), taken, prv t m, nxt t m⟩ :: cs', [(k, ans')] :: L, N⟩ = some (.next, ⟨[.ins 0, .int turn, .lob k, .none, af'], ⟨put, .int ((m : Int) - t), taken, .none, nxt t m⟩ :: cs', [(k, ans' ++ [.none])] :: L, N⟩) := by simp [callM, runFn, thenM, asgM, retM, dropM, iteM, bd, consM, methM, lmethM, chkL, var_eq, pu, no, getF, setF, attrM, putM, lstM, tupM, endFn, newM, newLob, blank, setV, u_none, u_bool, u_int, u_str, u_bytes, u_ins, u_lob, u_lst, u_lsb, u_tup, Ins.get, Ins.put, bin2, cmp2, boolV, orM, andM, notM, truthM, addM, subM, modM, divM, ltM, gtM, addLM, mulLM, itemsM, items2M, lenM, getItemM, idxM, appendM, extendM, popM, getL1, putL1, lookL, putSeg, pushL1, unpackM, consA, nilA, swapM, isM, isNotM, isF, frzV, frz0, hans']
    have hlen : (⟨put, .int ((m : Int) - t), taken, prv t m, .none⟩ :: cs : List Ins).length + 2 = m + 3 := by simp [J.lec]
    unfold takeMove iteM
    rw [bd, e1]
    dsimp only
    rw [if_pos rfl, thenM, bd, e2]
    dsimp only
    rw [thenM, bd, whileM]
    dsimp only
    rw [hlen, h1]
    dsimp only
    rw [thenM, bd, e3]
    rfl

theorem take_is {turn : Int} {t f m : Nat} {ps : List (AV × Int)} {cs : List Ins} {q : Ins} {put taken : AV} {st : AS} (h : st.ins = q :: cs) (J : JQ t f m ps cs q put taken) (hm : m ≤ 200) :
    ∃ cs' q' ans', ans'.length ≤ 610 ∧ (∀ x ∈ ans', x = .none) ∧
      ((t = m ∧ callM F_law_take [.ins 0, .int turn] st = some (.tup [.none, .lst ans'], { st with ins := q' :: cs', nl := st.nl + 1 }) ∧ ∃ f', JQ t f' m ps cs' q' put taken) ∨
       (∃ p τ, ps[t]? = some (p, τ) ∧ callM F_law_take [.ins 0, .int turn] st = some (.tup [.ins (t + 1), .lst ans'], { st with ins := q' :: cs', nl := st.nl + 1 }) ∧ (∃ f', JQ (t + 1) f' m ps cs' q' put p) ∧ cs'[t]? = some ⟨p, .int τ, .int turn, .none, .none⟩)) := by
  obtain ⟨f', cs1, q1, ans1, l3, l4, h1, J1, h3, h4, h5⟩ := move_is (turn := turn) (k := st.nl) (L := st.lst) (N := st.nl + 1) J hm
  have e0 : asgM (bd (pu []) newLob) (setV 2) ⟨[.ins 0, .int turn, .unb, .unb, .unb], q :: cs, [] :: st.lst, st.nl⟩ = some (.next, ⟨[.ins 0, .int turn, .lob st.nl, .unb, .unb], q :: cs, [(st.nl, [])] :: st.lst, st.nl + 1⟩) := by simp [callM, runFn, thenM, asgM, retM, dropM, iteM, bd, consM, methM, lmethM, chkL, var_eq, pu, no, getF, setF, attrM, putM, lstM, tupM, endFn, newM, newLob, blank, setV, u_none, u_bool, u_int, u_str, u_bytes, u_ins, u_lob, u_lst, u_lsb, u_tup, Ins.get, Ins.put, bin2, cmp2, boolV, orM, andM, notM, truthM, addM, subM, modM, divM, ltM, gtM, addLM, mulLM, itemsM, items2M, lenM, getItemM, idxM, appendM, extendM, popM, getL1, putL1, lookL, putSeg, pushL1, unpackM, consA, nilA, swapM, isM, isNotM, isF, frzV, frz0]
  have run : ∀ c ans q2 cs2 loc2, takeRest ⟨[.ins 0, .int turn, .lob st.nl, l3, l4], q1 :: cs1, [(st.nl, ans1)] :: st.lst, st.nl + 1⟩ = some (.ret (.tup [c, .lob st.nl]), ⟨loc2, q2 :: cs2, [(st.nl, ans)] :: st.lst, st.nl + 1⟩) → frz0 [(st.nl, ans)] c = c → callM F_law_take [.ins 0, .int turn] st = some (.tup [c, .lst ans], { st with ins := q2 :: cs2, nl := st.nl + 1 }) := by
    intro c ans q2 cs2 loc2 hr hc
    have e1 : B_law_take ⟨[.ins 0, .int turn, .unb, .unb, .unb], q :: cs, [] :: st.lst, st.nl⟩ = some (.ret (.tup [c, .lob st.nl]), ⟨loc2, q2 :: cs2, [(st.nl, ans)] :: st.lst, st.nl + 1⟩) := by
      rw [take_parts, thenM, bd, e0]
      dsimp only
      rw [thenM, bd, h1]
      exact hr
    have e2 : (⟨[.ins 0, .int turn] ++ List.replicate 3 .unb, st.ins, [] :: st.lst, st.nl⟩ : AS) = ⟨[.ins 0, .int turn, .unb, .unb, .unb], q :: cs, [] :: st.lst, st.nl⟩ := by rw [h]; rfl
    unfold callM F_law_take runFn
    rw [if_pos (show [AV.ins 0, AV.int turn].length = 2 from rfl), e2, e1]
    dsimp only
    simp [endFn, frzV, hc]
    simp [frz0, lookL]
  have hq := J1.q_
  by_cases htf : t < f'
  · obtain ⟨p, τ, a1, a2⟩ := J1.fr.at_ t (Nat.le_refl _) htf
    have hn : nxt t f' = .ins (t + 1) := if_pos htf
    subst hq
    have hr := rest_some (turn := turn) (r := (m : Int) - t) (k := st.nl) (i := t) (c0 := l3) (af := l4) (L := st.lst) (N := st.nl + 1) (q := ⟨put, .int ((m : Int) - t), taken, prv f' m, nxt t f'⟩) (ans := ans1) hn rfl a2 (nxt_u _ _) (by omega)
    have htl : t < cs1.length := by have := J1.lec; have := J1.fm; omega
    refine ⟨cs1.set t ⟨p, .int τ, .int turn, .none, .none⟩, ⟨put, .int ((m : Int) - t - 1), p, prv f' m, nxt (t + 1) f'⟩, ans1 ++ [.none, .none, .none, .none, .none], by simp; omega, fun x hx => (List.mem_append.mp hx).elim (h5 x) (fun hx => by simpa using hx), .inr ⟨p, τ, a1, run _ _ _ _ _ hr rfl, ⟨f', ⟨by omega, J1.fm, J1.len, by simpa using J1.lec, ⟨fun i b1 b2 => ?_⟩, ⟨fun i b1 b2 => ?_⟩, ?_, J1.good, J1.pp, J1.good _ (List.mem_of_getElem? a1)⟩⟩, List.getElem?_set_self htl⟩⟩
    · obtain ⟨p', τ', c1, c2⟩ := J1.fr.at_ i (by omega) b2
      exact ⟨p', τ', c1, by rw [List.getElem?_set_ne (by omega)]; exact c2⟩
    · obtain ⟨p', τ', c1, c2⟩ := J1.bk.at_ i b1 b2
      exact ⟨p', τ', c1, by rw [List.getElem?_set_ne (by omega)]; exact c2⟩
    · rw [show ((m : Int) - ((t + 1 : Nat) : Int)) = (m : Int) - t - 1 from by push_cast; omega]
  · have ht : t = f' := by have := J1.tf; omega
    have hfm := h3 ht
    have hn : nxt t f' = .none := if_neg htf
    have hr := rest_none (turn := turn) (k := st.nl) (c0 := l3) (af := l4) (L := st.lst) (N := st.nl + 1) (q := q1) (cs := cs1) (ans := ans1) (by rw [hq]; exact hn)
    exact ⟨cs1, q1, ans1, by omega, h5, .inl ⟨by omega, run _ _ _ _ _ hr rfl, f', J1⟩⟩

def waitOf (t : Nat) (ps : List (AV × Int)) : List AV := (ps.drop t).map fun x => .tup [x.1, .int x.2]
theorem wait_len (t : Nat) (ps : List (AV × Int)) : (waitOf t ps).length = ps.length - t := by simp [waitOf]

theorem washed_is {v : AV} {st : AS} {q : Ins} {cs : List Ins} (h : st.ins = q :: cs) : callM F_law_washed [.ins 0] st = some (.bool true, { st with ins := ⟨.none, .none, .none, .none, .none⟩ :: cs }) := by
  have ht : ∀ (s : AS) (i : Ins) (r : List Ins), s.ins = i :: r → callM F_law_told [.ins 0] s = some (.lst [i.sys, i.pub, i.enc, i.byt, i.chr], s) := fun s i r e => told_is (by rw [e]; rfl)
  have one : ∀ (v a : AV) (q : Ins) (s : AS), v.pl = true → s.loc = [.ins 0, v, a] → s.ins = q :: cs → B_law_washed_1 s = some (.next, { s with loc := [.ins 0, v, .lst [.none, .none, .none, .none, .none]], ins := ⟨v, v, v, v, v⟩ :: cs }) := by
    intro v a q s hv hl hi
    have hu := pl_u hv
    have he := pl_eq hv
    obtain ⟨loc, ins, lst, nl⟩ := s
    dsimp only at hl hi
    subst hl hi
    have e1 : ∀ st : AS, eqF st 7 v v = some true := fun st => he st 6
    have e2 : ∀ st : AS, eqF st 7 .none .none = some true := fun st => rfl
    unfold B_law_washed_1
    rw [thenM, bd]
    have a1 : asgM (bd (consM (methM (var 0) (consM (var 1) (pu [])) (setF .sys)) (consM (methM (var 0) (consM (var 1) (pu [])) (setF .pub)) (consM (methM (var 0) (consM (var 1) (pu [])) (setF .enc)) (consM (methM (var 0) (consM (var 1) (pu [])) (setF .byt)) (consM (methM (var 0) (consM (var 1) (pu [])) (setF .chr)) (pu [])))))) lstM) (setV 2) ⟨[.ins 0, v, a], q :: cs, lst, nl⟩ = some (.next, ⟨[.ins 0, v, .lst [.none, .none, .none, .none, .none]], ⟨v, v, v, v, v⟩ :: cs, lst, nl⟩) := by simp [callM, runFn, thenM, asgM, retM, dropM, iteM, bd, consM, methM, lmethM, chkL, var_eq, pu, no, getF, setF, attrM, putM, lstM, tupM, endFn, newM, newLob, blank, setV, u_none, u_bool, u_int, u_str, u_bytes, u_ins, u_lob, u_lst, u_lsb, u_tup, Ins.get, Ins.put, bin2, cmp2, boolV, orM, andM, notM, truthM, addM, subM, modM, divM, ltM, gtM, addLM, mulLM, itemsM, items2M, lenM, getItemM, idxM, appendM, extendM, popM, getL1, putL1, lookL, putSeg, pushL1, unpackM, consA, nilA, swapM, isM, isNotM, isF, frzV, frz0, hu]
    rw [a1]
    dsimp only
    have a2 := ht ⟨[.ins 0, v, .lst [.none, .none, .none, .none, .none]], ⟨v, v, v, v, v⟩ :: cs, lst, nl⟩ _ _ rfl
    have a3 : (bd (consM (var 0) (pu [])) (callM F_law_told)) ⟨[.ins 0, v, .lst [.none, .none, .none, .none, .none]], ⟨v, v, v, v, v⟩ :: cs, lst, nl⟩ = some (.lst [v, v, v, v, v], ⟨[.ins 0, v, .lst [.none, .none, .none, .none, .none]], ⟨v, v, v, v, v⟩ :: cs, lst, nl⟩) := by
      have : consM (var 0) (pu []) ⟨[.ins 0, v, .lst [.none, .none, .none, .none, .none]], ⟨v, v, v, v, v⟩ :: cs, lst, nl⟩ = some ([.ins 0], ⟨[.ins 0, v, .lst [.none, .none, .none, .none, .none]], ⟨v, v, v, v, v⟩ :: cs, lst, nl⟩) := by simp [callM, runFn, thenM, asgM, retM, dropM, iteM, bd, consM, methM, lmethM, chkL, var_eq, pu, no, getF, setF, attrM, putM, lstM, tupM, endFn, newM, newLob, blank, setV, u_none, u_bool, u_int, u_str, u_bytes, u_ins, u_lob, u_lst, u_lsb, u_tup, Ins.get, Ins.put, bin2, cmp2, boolV, orM, andM, notM, truthM, addM, subM, modM, divM, ltM, gtM, addLM, mulLM, itemsM, items2M, lenM, getItemM, idxM, appendM, extendM, popM, getL1, putL1, lookL, putSeg, pushL1, unpackM, consA, nilA, swapM, isM, isNotM, isF, frzV, frz0]
      rw [bd, this]
      exact a2
    generalize bd (consM (var 0) (pu [])) (callM F_law_told) = T at a3 ⊢
    simp [callM, runFn, thenM, asgM, retM, dropM, iteM, bd, consM, methM, lmethM, chkL, var_eq, pu, no, getF, setF, attrM, putM, lstM, tupM, endFn, newM, newLob, blank, setV, u_none, u_bool, u_int, u_str, u_bytes, u_ins, u_lob, u_lst, u_lsb, u_tup, Ins.get, Ins.put, bin2, cmp2, boolV, orM, andM, notM, truthM, addM, subM, modM, divM, ltM, gtM, addLM, mulLM, itemsM, items2M, lenM, getItemM, idxM, appendM, extendM, popM, getL1, putL1, lookL, putSeg, pushL1, unpackM, consA, nilA, swapM, isM, isNotM, isF, frzV, frz0, hu, a3, neM, eqF, eqAll, List.replicate, e1, e2]
  obtain ⟨loc, ins, lst, nl⟩ := st
  dsimp only at h
  subst h
  have b1 := one (.str "x") .unb q ⟨[.ins 0, .str "x", .unb], q :: cs, [] :: lst, nl⟩ rfl rfl rfl
  have b2 := one (.str "") (.lst [.none, .none, .none, .none, .none]) _ ⟨[.ins 0, .str "", .lst [.none, .none, .none, .none, .none]], ⟨.str "x", .str "x", .str "x", .str "x", .str "x"⟩ :: cs, [] :: lst, nl⟩ rfl rfl rfl
  have b3 := one .none (.lst [.none, .none, .none, .none, .none]) _ ⟨[.ins 0, .none, .lst [.none, .none, .none, .none, .none]], ⟨.str "", .str "", .str "", .str "", .str ""⟩ :: cs, [] :: lst, nl⟩ rfl rfl rfl
  simp [F_law_washed, B_law_washed, callM, runFn, thenM, asgM, retM, dropM, iteM, bd, consM, methM, lmethM, chkL, var_eq, pu, no, getF, setF, attrM, putM, lstM, tupM, endFn, newM, newLob, blank, setV, u_none, u_bool, u_int, u_str, u_bytes, u_ins, u_lob, u_lst, u_lsb, u_tup, Ins.get, Ins.put, bin2, cmp2, boolV, orM, andM, notM, truthM, addM, subM, modM, divM, ltM, gtM, addLM, mulLM, itemsM, items2M, lenM, getItemM, idxM, appendM, extendM, popM, getL1, putL1, lookL, putSeg, pushL1, unpackM, consA, nilA, swapM, isM, isNotM, isF, frzV, frz0, forM', lstIt, sizeL, forG, nxL, b1, b2, b3]

theorem then_next {f g : Cm AF} {st st1 : AS} (h : f st = some (.next, st1)) : thenM f g st = g st1 := by rw [thenM, bd, h]
theorem ite_t {α : Type} {t : Cm Bool} {f g : Cm α} {st st1 : AS} (h : t st = some (true, st1)) : iteM t f g st = f st1 := by rw [iteM, bd, h]; rfl
theorem ite_f {α : Type} {t : Cm Bool} {f g : Cm α} {st st1 : AS} (h : t st = some (false, st1)) : iteM t f g st = g st1 := by rw [iteM, bd, h]; rfl

def chk : Cm AF := iteM (cmp2 (bd (consM (methM (var 3) (pu []) (getF .sys)) (consM (methM (var 3) (pu []) (getF .pub)) (consM (methM (var 3) (pu []) (getF .enc)) (pu [])))) lstM) (bd (consM (var 5) (consM (bd (consM (var 4) (pu [])) lenM) (consM (var 6) (pu [])))) lstM) neM) (thenM (retM (pu (.bool false)))
  (pu .next)) (pu .next)
def partPut : Cm AF := thenM (asgM (bin2 (bd (consM (pu (.int 0)) (consM (pu (.str "")) (consM (pu (.str "a")) (consM (pu (.bytes (List.toArray []))) (consM (pu .none) (pu [])))))) lstM) (bin2 (bin2 (var 8) (pu (.int 3)) divM) (pu (.int 5)) modM) getItemM) (setV 5))
  (thenM (dropM (lmethM (var 4) (consM (bd (consM (var 5) (consM (var 7) (pu []))) tupM) (pu [])) appendM))
  (thenM (dropM (lmethM (var 1) (consM (bd (consM (var 3) (consM (var 5) (consM (var 7) (pu [])))) (callM F_law_put)) (pu [])) extendM))
  (pu .next)))
def partSame : Cm AF := iteM (orM (cmp2 (var 11) (bd (consM (var 6) (consM (var 12) (consM (var 7) (consM (pu .none) (consM (pu .none) (pu [])))))) lstM) neM) (orM (cmp2 (bd (consM (bin2 (var 11) (pu (.int 0)) getItemM) (pu [])) typeM) (bd (consM (var 6) (pu [])) typeM) isNotM) (pu false))) (thenM (retM (pu (.bool false)))
  (pu .next)) (pu .next)
def partTake : Cm AF := thenM (asgM (bd (consM (var 3) (consM (var 7) (pu []))) (callM F_law_take)) (unpackM 2 (consA (setV 9) (consA (setV 10) (nilA)))))
  (thenM (dropM (lmethM (var 1) (consM (var 10) (pu [])) extendM))
  (thenM (iteM (cmp2 (var 4) (bd (pu []) lstM) eqM) (thenM (iteM (cmp2 (var 9) (pu .none) isNotM) (thenM (retM (pu (.bool false)))
  (pu .next)) (pu .next))
  (pu .next)) (thenM (asgM (lmethM (var 4) (consM (pu (.int 0)) (pu [])) popM) (unpackM 2 (consA (setV 6) (consA (setV 12) (nilA)))))
  (thenM (asgM (bd (consM (var 9) (pu [])) (callM F_law_told)) (setV 11))
  (thenM partSame
  (pu .next)))))
  (pu .next)))
theorem body_parts : B_law_1 = thenM (iteM (cmp2 (bin2 (var 8) (pu (.int 3)) modM) (pu (.int 2)) ltM) partPut partTake) (thenM chk (pu .next)) := rfl

theorem chk_is {l0 l1 l2 l7 l8 l9 l10 l11 l12 put taken : AV} {q : Ins} {cs : List Ins} {ans wait : List AV} {N : Nat} (h1 : q.sys = put) (h2 : q.pub = .int wait.length) (h3 : q.enc = taken) (g1 : put.pl = true) (g3 : taken.pl = true) (hl : wait.length ≤ 100000) :
    chk ⟨[l0, l1, l2, .ins 0, .lob 0, put, taken, l7, l8, l9, l10, l11, l12], q :: cs, [[(1, ans), (0, wait)]], N⟩ = some (.next, ⟨[l0, l1, l2, .ins 0, .lob 0, put, taken, l7, l8, l9, l10, l11, l12], q :: cs, [[(1, ans), (0, wait)]], N⟩) := by
  have u1 := pl_u g1
  have u3 := pl_u g3
  have e1 : ∀ st : AS, eqF st 7 put put = some true := fun st => pl_eq g1 st 6
  have e3 : ∀ st : AS, eqF st 7 taken taken = some true := fun st => pl_eq g3 st 6
  have e2 : ∀ (st : AS) (i : Int), eqF st 7 (.int i) (.int i) = some true := fun st i => pl_eq rfl st 6
  simp [chk, callM, runFn, thenM, asgM, retM, dropM, iteM, bd, consM, methM, lmethM, chkL, var_eq, pu, no, getF, setF, attrM, putM, lstM, tupM, endFn, newM, newLob, blank, setV, u_none, u_bool, u_int, u_str, u_bytes, u_ins, u_lob, u_lst, u_lsb, u_tup, Ins.get, Ins.put, bin2, cmp2, boolV, orM, andM, notM, truthM, addM, subM, modM, divM, ltM, gtM, addLM, mulLM, itemsM, items2M, lenM, getItemM, idxM, appendM, extendM, popM, getL1, putL1, lookL, putSeg, pushL1, unpackM, consA, nilA, swapM, isM, isNotM, isF, frzV, frz0, h1, h2, h3, u1, u3, hl, neM, eqF, eqAll, e1, e2, e3]

theorem pick5 (i : Int) (st : AS) (h0 : 0 ≤ i) (h5 : i < 5) : ∃ v : AV, v.pl = true ∧ getItemM (.lst [.int 0, .str "", .str "a", .bytes (List.toArray []), .none]) (.int i) st = some (v, st) := by
  have : i = 0 ∨ i = 1 ∨ i = 2 ∨ i = 3 ∨ i = 4 := by omega
  rcases this with rfl | rfl | rfl | rfl | rfl <;> exact ⟨_, rfl, rfl⟩

theorem put_step {l0 l2 l9 l10 l11 l12 put taken : AV} {tn x : Int} {t f m : Nat} {ps : List (AV × Int)} {q : Ins} {cs : List Ins} {ans : List AV} {N : Nat} (J : JQ t f m ps cs q put taken) (hm : m ≤ 200) (ha : ans.length ≤ 90000) :
    ∃ v q' cs', partPut ⟨[l0, .lob 1, l2, .ins 0, .lob 0, put, taken, .int tn, .int x, l9, l10, l11, l12], q :: cs, [[(1, ans), (0, waitOf t ps)]], N⟩ =
      some (.next, ⟨[l0, .lob 1, l2, .ins 0, .lob 0, v, taken, .int tn, .int x, l9, l10, l11, l12], q' :: cs', [[(1, ans ++ [.none, .none, .none, .none, .none]), (0, waitOf t (ps ++ [(v, tn)]))]], N⟩) ∧ JQ t f (m + 1) (ps ++ [(v, tn)]) cs' q' v taken := by
  obtain ⟨v, hv, hp⟩ := pick5 (x / 3 % 5) ⟨[l0, .lob 1, l2, .ins 0, .lob 0, put, taken, .int tn, .int x, l9, l10, l11, l12], q :: cs, [[(1, ans), (0, waitOf t ps)]], N⟩ (by omega) (by omega)
  have hq := J.q_
  subst hq
  have hu := pl_u hv
  have tf := J.tf
  have fm := J.fm
  have hlen := J.len
  have hw : waitOf t (ps ++ [(v, tn)]) = waitOf t ps ++ [.tup [v, .int tn]] := by
    unfold waitOf
    rw [List.drop_append_of_le_length (by omega)]; simp
  have hwl : (waitOf t ps).length ≤ 100000 := by rw [wait_len]; omega
  have ha' : ans.length + 5 ≤ 100000 := by omega
  have e1 : asgM (bin2 (bd (consM (pu (.int 0)) (consM (pu (.str "")) (consM (pu (.str "a")) (consM (pu (.bytes (List.toArray []))) (consM (pu .none) (pu [])))))) lstM) (bin2 (bin2 (var 8) (pu (.int 3)) divM) (pu (.int 5)) modM) getItemM) (setV 5) ⟨[l0, .lob 1, l2, .ins 0, .lob 0, put, taken, .int tn, .int x, l9, l10, l11, l12], ⟨put, .int ((m : Int) - t), taken, prv f m, nxt t f⟩ :: cs, [[(1, ans), (0, waitOf t ps)]], N⟩ =
      some (.next, ⟨[l0, .lob 1, l2, .ins 0, .lob 0, v, taken, .int tn, .int x, l9, l10, l11, l12], ⟨put, .int ((m : Int) - t), taken, prv f m, nxt t f⟩ :: cs, [[(1, ans), (0, waitOf t ps)]], N⟩) := by
    have z : bin2 (bd (consM (pu (.int 0)) (consM (pu (.str "")) (consM (pu (.str "a")) (consM (pu (.bytes (List.toArray []))) (consM (pu .none) (pu [])))))) lstM) (bin2 (bin2 (var 8) (pu (.int 3)) divM) (pu (.int 5)) modM) getItemM ⟨[l0, .lob 1, l2, .ins 0, .lob 0, put, taken, .int tn, .int x, l9, l10, l11, l12], ⟨put, .int ((m : Int) - t), taken, prv f m, nxt t f⟩ :: cs, [[(1, ans), (0, waitOf t ps)]], N⟩ = getItemM (.lst [.int 0, .str "", .str "a", .bytes (List.toArray []), .none]) (.int (x / 3 % 5)) ⟨[l0, .lob 1, l2, .ins 0, .lob 0, put, taken, .int tn, .int x, l9, l10, l11, l12], ⟨put, .int ((m : Int) - t), taken, prv f m, nxt t f⟩ :: cs, [[(1, ans), (0, waitOf t ps)]], N⟩ := by
      simp [bin2, bd, consM, pu, lstM, var_eq, u_int, divM, modM]
    rw [asgM, bd, z, hp]
    rfl
  have e2 : dropM (lmethM (var 4) (consM (bd (consM (var 5) (consM (var 7) (pu []))) tupM) (pu [])) appendM) ⟨[l0, .lob 1, l2, .ins 0, .lob 0, v, taken, .int tn, .int x, l9, l10, l11, l12], ⟨put, .int ((m : Int) - t), taken, prv f m, nxt t f⟩ :: cs, [[(1, ans), (0, waitOf t ps)]], N⟩ =
      some (.next, ⟨[l0, .lob 1, l2, .ins 0, .lob 0, v, taken, .int tn, .int x, l9, l10, l11, l12], ⟨put, .int ((m : Int) - t), taken, prv f m, nxt t f⟩ :: cs, [[(1, ans), (0, waitOf t (ps ++ [(v, tn)]))]], N⟩) := by
    rw [hw]; simp [callM, runFn, thenM, asgM, retM, dropM, iteM, bd, consM, methM, lmethM, chkL, var_eq, pu, no, getF, setF, attrM, putM, lstM, tupM, endFn, newM, newLob, blank, setV, u_none, u_bool, u_int, u_str, u_bytes, u_ins, u_lob, u_lst, u_lsb, u_tup, Ins.get, Ins.put, bin2, cmp2, boolV, orM, andM, notM, truthM, addM, subM, modM, divM, ltM, gtM, addLM, mulLM, itemsM, items2M, lenM, getItemM, idxM, appendM, extendM, popM, getL1, putL1, lookL, putSeg, pushL1, unpackM, consA, nilA, swapM, isM, isNotM, isF, frzV, frz0, hu, hwl]
  have e3 : dropM (lmethM (var 1) (consM (bd (consM (var 3) (consM (var 5) (consM (var 7) (pu [])))) (callM F_law_put)) (pu [])) extendM) ⟨[l0, .lob 1, l2, .ins 0, .lob 0, v, taken, .int tn, .int x, l9, l10, l11, l12], ⟨put, .int ((m : Int) - t), taken, prv f m, nxt t f⟩ :: cs, [[(1, ans), (0, waitOf t (ps ++ [(v, tn)]))]], N⟩ =
      some (.next, ⟨[l0, .lob 1, l2, .ins 0, .lob 0, v, taken, .int tn, .int x, l9, l10, l11, l12], ⟨v, .int ((m : Int) - t + 1), taken, .ins (cs.length + 1), nxt t f⟩ :: (cs ++ [⟨v, .int tn, .none, prv f m, .none⟩]), [[(1, ans ++ [.none, .none, .none, .none, .none]), (0, waitOf t (ps ++ [(v, tn)]))]], N⟩) := by
    have z := put_is (st := ⟨[l0, .lob 1, l2, .ins 0, .lob 0, v, taken, .int tn, .int x, l9, l10, l11, l12], ⟨put, .int ((m : Int) - t), taken, prv f m, nxt t f⟩ :: cs, [[(1, ans), (0, waitOf t (ps ++ [(v, tn)]))]], N⟩) (t := tn) rfl hv rfl
    have z' : bd (consM (var 3) (consM (var 5) (consM (var 7) (pu [])))) (callM F_law_put) ⟨[l0, .lob 1, l2, .ins 0, .lob 0, v, taken, .int tn, .int x, l9, l10, l11, l12], ⟨put, .int ((m : Int) - t), taken, prv f m, nxt t f⟩ :: cs, [[(1, ans), (0, waitOf t (ps ++ [(v, tn)]))]], N⟩ = callM F_law_put [.ins 0, v, .int tn] ⟨[l0, .lob 1, l2, .ins 0, .lob 0, v, taken, .int tn, .int x, l9, l10, l11, l12], ⟨put, .int ((m : Int) - t), taken, prv f m, nxt t f⟩ :: cs, [[(1, ans), (0, waitOf t (ps ++ [(v, tn)]))]], N⟩ := by
      simp [bd, consM, pu, var_eq, u_none, u_bool, u_int, u_str, u_bytes, u_ins, u_lob, u_lst, u_lsb, u_tup, hu]
    rw [z] at z'
    generalize bd (consM (var 3) (consM (var 5) (consM (var 7) (pu [])))) (callM F_law_put) = T at z' ⊢
    simp [callM, runFn, thenM, asgM, retM, dropM, iteM, bd, consM, methM, lmethM, chkL, var_eq, pu, no, getF, setF, attrM, putM, lstM, tupM, endFn, newM, newLob, blank, setV, u_none, u_bool, u_int, u_str, u_bytes, u_ins, u_lob, u_lst, u_lsb, u_tup, Ins.get, Ins.put, bin2, cmp2, boolV, orM, andM, notM, truthM, addM, subM, modM, divM, ltM, gtM, addLM, mulLM, itemsM, items2M, lenM, getItemM, idxM, appendM, extendM, popM, getL1, putL1, lookL, putSeg, pushL1, unpackM, consA, nilA, swapM, isM, isNotM, isF, frzV, frz0, z', ha']
  refine ⟨v, _, _, by rw [partPut, then_next e1, then_next e2, then_next e3]; rfl, ⟨tf, by omega, by simp [hlen], by simp [J.lec], ⟨fun i b1 b2 => ?_⟩, ⟨fun i b1 b2 => ?_⟩, ?_, ?_, hv, J.tp⟩⟩
  · obtain ⟨p, τ, c1, c2⟩ := J.fr.at_ i b1 b2
    exact ⟨p, τ, by rw [List.getElem?_append_left (by omega)]; exact c1, by rw [List.getElem?_append_left (by have := J.lec; omega)]; exact c2⟩
  · by_cases hi : i = m
    · subst hi
      exact ⟨v, tn, by rw [List.getElem?_append_right (by omega), hlen]; simp, by rw [List.getElem?_append_right (by have := J.lec; omega), J.lec]; simp⟩
    · obtain ⟨p, τ, c1, c2⟩ := J.bk.at_ i b1 (by omega)
      exact ⟨p, τ, by rw [List.getElem?_append_left (by omega)]; exact c1, by rw [List.getElem?_append_left (by have := J.lec; omega)]; exact c2⟩
  · rw [J.lec]
    unfold prv
    rw [if_pos (show f < m + 1 by omega), show ((m + 1 : Nat) : Int) - (t : Int) = (m : Int) - t + 1 from by push_cast; omega]
  · intro x hx
    rcases List.mem_append.mp hx with hx | hx
    · exact J.good x hx
    · rw [List.mem_singleton.mp hx]; exact hv

theorem take_step {l0 l2 l8 l9 l10 l11 l12 put taken : AV} {tn : Int} {t f m : Nat} {ps : List (AV × Int)} {q : Ins} {cs : List Ins} {ans : List AV} {N : Nat} (J : JQ t f m ps cs q put taken) (hm : m ≤ 200) (ha : ans.length ≤ 90000) :
    ∃ t' f' taken' q' cs' ans' l9' l10' l11' l12' N', partTake ⟨[l0, .lob 1, l2, .ins 0, .lob 0, put, taken, .int tn, l8, l9, l10, l11, l12], q :: cs, [[(1, ans), (0, waitOf t ps)]], N⟩ =
      some (.next, ⟨[l0, .lob 1, l2, .ins 0, .lob 0, put, taken', .int tn, l8, l9', l10', l11', l12'], q' :: cs', [[(1, ans ++ ans'), (0, waitOf t' ps)]], N'⟩) ∧ JQ t' f' m ps cs' q' put taken' ∧ ans'.length ≤ 610 ∧ (∀ x ∈ ans', x = .none) := by
  obtain ⟨cs', q', ans', h1, h2, h3⟩ := take_is (turn := tn) (st := ⟨[l0, .lob 1, l2, .ins 0, .lob 0, put, taken, .int tn, l8, l9, l10, l11, l12], q :: cs, [[(1, ans), (0, waitOf t ps)]], N⟩) rfl J hm
  have tf := J.tf
  have fm := J.fm
  have hlen := J.len
  have hpu := pl_u J.pp
  have hal : ans.length + ans'.length ≤ 100000 := by omega
  have z' : bd (consM (var 3) (consM (var 7) (pu []))) (callM F_law_take) ⟨[l0, .lob 1, l2, .ins 0, .lob 0, put, taken, .int tn, l8, l9, l10, l11, l12], q :: cs, [[(1, ans), (0, waitOf t ps)]], N⟩ = callM F_law_take [.ins 0, .int tn] ⟨[l0, .lob 1, l2, .ins 0, .lob 0, put, taken, .int tn, l8, l9, l10, l11, l12], q :: cs, [[(1, ans), (0, waitOf t ps)]], N⟩ := by
    simp [bd, consM, pu, var_eq, u_none, u_bool, u_int, u_str, u_bytes, u_ins, u_lob, u_lst, u_lsb, u_tup]
  rcases h3 with ⟨htm, hc, f', J'⟩ | ⟨p, τ, hps, hc, ⟨f', J'⟩, hcell⟩
  · rw [hc] at z'
    have hw : waitOf t ps = [] := by unfold waitOf; rw [List.drop_of_length_le (by omega)]; rfl
    refine ⟨t, f', taken, q', cs', ans', .none, .lst ans', l11, l12, N + 1, ?_, J', h1, h2⟩
    unfold partTake
    generalize bd (consM (var 3) (consM (var 7) (pu []))) (callM F_law_take) = T at z' ⊢
    have e1 : asgM T (unpackM 2 (consA (setV 9) (consA (setV 10) (nilA)))) ⟨[l0, .lob 1, l2, .ins 0, .lob 0, put, taken, .int tn, l8, l9, l10, l11, l12], q :: cs, [[(1, ans), (0, waitOf t ps)]], N⟩ = some (.next, ⟨[l0, .lob 1, l2, .ins 0, .lob 0, put, taken, .int tn, l8, .none, (.lst ans'), l11, l12], q' :: cs', [[(1, ans), (0, waitOf t ps)]], (N + 1)⟩) := by simp [asgM, bd, z', unpackM, consA, nilA, setV, pu]
    have e2 : dropM (lmethM (var 1) (consM (var 10) (pu [])) extendM) ⟨[l0, .lob 1, l2, .ins 0, .lob 0, put, taken, .int tn, l8, .none, (.lst ans'), l11, l12], q' :: cs', [[(1, ans), (0, waitOf t ps)]], (N + 1)⟩ = some (.next, ⟨[l0, .lob 1, l2, .ins 0, .lob 0, put, taken, .int tn, l8, .none, (.lst ans'), l11, l12], q' :: cs', [[(1, ans ++ ans'), (0, waitOf t ps)]], (N + 1)⟩) := by simp [callM, runFn, thenM, asgM, retM, dropM, iteM, bd, consM, methM, lmethM, chkL, var_eq, pu, no, getF, setF, attrM, putM, lstM, tupM, endFn, newM, newLob, blank, setV, u_none, u_bool, u_int, u_str, u_bytes, u_ins, u_lob, u_lst, u_lsb, u_tup, Ins.get, Ins.put, bin2, cmp2, boolV, orM, andM, notM, truthM, addM, subM, modM, divM, ltM, gtM, addLM, mulLM, itemsM, items2M, lenM, getItemM, idxM, appendM, extendM, popM, getL1, putL1, lookL, putSeg, pushL1, unpackM, consA, nilA, swapM, isM, isNotM, isF, frzV, frz0, hal]
    have e3 : cmp2 (var 4) (bd (pu []) lstM) eqM ⟨[l0, .lob 1, l2, .ins 0, .lob 0, put, taken, .int tn, l8, .none, (.lst ans'), l11, l12], q' :: cs', [[(1, ans ++ ans'), (0, waitOf t ps)]], (N + 1)⟩ = some (true, ⟨[l0, .lob 1, l2, .ins 0, .lob 0, put, taken, .int tn, l8, .none, (.lst ans'), l11, l12], q' :: cs', [[(1, ans ++ ans'), (0, waitOf t ps)]], (N + 1)⟩) := by simp [callM, runFn, thenM, asgM, retM, dropM, iteM, bd, consM, methM, lmethM, chkL, var_eq, pu, no, getF, setF, attrM, putM, lstM, tupM, endFn, newM, newLob, blank, setV, u_none, u_bool, u_int, u_str, u_bytes, u_ins, u_lob, u_lst, u_lsb, u_tup, Ins.get, Ins.put, bin2, cmp2, boolV, orM, andM, notM, truthM, addM, subM, modM, divM, ltM, gtM, addLM, mulLM, itemsM, items2M, lenM, getItemM, idxM, appendM, extendM, popM, getL1, putL1, lookL, putSeg, pushL1, unpackM, consA, nilA, swapM, isM, isNotM, isF, frzV, frz0, hw, eqM, eqF, eqAll]
    have e4 : thenM (iteM (cmp2 (var 9) (pu .none) isNotM) (thenM (retM (pu (.bool false))) (pu .next)) (pu .next)) (pu .next) ⟨[l0, .lob 1, l2, .ins 0, .lob 0, put, taken, .int tn, l8, .none, (.lst ans'), l11, l12], q' :: cs', [[(1, ans ++ ans'), (0, waitOf t ps)]], (N + 1)⟩ = some (.next, ⟨[l0, .lob 1, l2, .ins 0, .lob 0, put, taken, .int tn, l8, .none, (.lst ans'), l11, l12], q' :: cs', [[(1, ans ++ ans'), (0, waitOf t ps)]], (N + 1)⟩) := by simp [callM, runFn, thenM, asgM, retM, dropM, iteM, bd, consM, methM, lmethM, chkL, var_eq, pu, no, getF, setF, attrM, putM, lstM, tupM, endFn, newM, newLob, blank, setV, u_none, u_bool, u_int, u_str, u_bytes, u_ins, u_lob, u_lst, u_lsb, u_tup, Ins.get, Ins.put, bin2, cmp2, boolV, orM, andM, notM, truthM, addM, subM, modM, divM, ltM, gtM, addLM, mulLM, itemsM, items2M, lenM, getItemM, idxM, appendM, extendM, popM, getL1, putL1, lookL, putSeg, pushL1, unpackM, consA, nilA, swapM, isM, isNotM, isF, frzV, frz0]
    rw [then_next e1, then_next e2, then_next ((ite_t e3).trans e4)]
    rfl
  · rw [hc] at z'
    have htl : t < ps.length := (List.getElem?_eq_some_iff.mp hps).1
    have hw : waitOf t ps = .tup [p, .int τ] :: waitOf (t + 1) ps := by
      unfold waitOf
      rw [List.drop_eq_getElem_cons htl, List.map_cons, (List.getElem?_eq_some_iff.mp hps).2]
    have hwl : (waitOf (t + 1) ps).length + 1 ≤ 100000 := by rw [wait_len]; omega
    have hp := J.good _ (List.mem_of_getElem? hps)
    have hpu' : p.isU = false := pl_u hp
    obtain ⟨ty, hty⟩ := pl_ty hp
    refine ⟨t + 1, f', p, q', cs', ans', .ins (t + 1), .lst ans', .lst [p, .int τ, .int tn, .none, .none], .int τ, N + 1, ?_, J', h1, h2⟩
    unfold partTake
    generalize bd (consM (var 3) (consM (var 7) (pu []))) (callM F_law_take) = T at z' ⊢
    have e1 : asgM T (unpackM 2 (consA (setV 9) (consA (setV 10) (nilA)))) ⟨[l0, .lob 1, l2, .ins 0, .lob 0, put, taken, .int tn, l8, l9, l10, l11, l12], q :: cs, [[(1, ans), (0, waitOf t ps)]], N⟩ = some (.next, ⟨[l0, .lob 1, l2, .ins 0, .lob 0, put, taken, .int tn, l8, (.ins (t + 1)), (.lst ans'), l11, l12], q' :: cs', [[(1, ans), (0, waitOf t ps)]], (N + 1)⟩) := by simp [asgM, bd, z', unpackM, consA, nilA, setV, pu]
    have e2 : dropM (lmethM (var 1) (consM (var 10) (pu [])) extendM) ⟨[l0, .lob 1, l2, .ins 0, .lob 0, put, taken, .int tn, l8, (.ins (t + 1)), (.lst ans'), l11, l12], q' :: cs', [[(1, ans), (0, waitOf t ps)]], (N + 1)⟩ = some (.next, ⟨[l0, .lob 1, l2, .ins 0, .lob 0, put, taken, .int tn, l8, (.ins (t + 1)), (.lst ans'), l11, l12], q' :: cs', [[(1, ans ++ ans'), (0, waitOf t ps)]], (N + 1)⟩) := by simp [callM, runFn, thenM, asgM, retM, dropM, iteM, bd, consM, methM, lmethM, chkL, var_eq, pu, no, getF, setF, attrM, putM, lstM, tupM, endFn, newM, newLob, blank, setV, u_none, u_bool, u_int, u_str, u_bytes, u_ins, u_lob, u_lst, u_lsb, u_tup, Ins.get, Ins.put, bin2, cmp2, boolV, orM, andM, notM, truthM, addM, subM, modM, divM, ltM, gtM, addLM, mulLM, itemsM, items2M, lenM, getItemM, idxM, appendM, extendM, popM, getL1, putL1, lookL, putSeg, pushL1, unpackM, consA, nilA, swapM, isM, isNotM, isF, frzV, frz0, hal]
    have e3 : cmp2 (var 4) (bd (pu []) lstM) eqM ⟨[l0, .lob 1, l2, .ins 0, .lob 0, put, taken, .int tn, l8, (.ins (t + 1)), (.lst ans'), l11, l12], q' :: cs', [[(1, ans ++ ans'), (0, waitOf t ps)]], (N + 1)⟩ = some (false, ⟨[l0, .lob 1, l2, .ins 0, .lob 0, put, taken, .int tn, l8, (.ins (t + 1)), (.lst ans'), l11, l12], q' :: cs', [[(1, ans ++ ans'), (0, waitOf t ps)]], (N + 1)⟩) := by simp [callM, runFn, thenM, asgM, retM, dropM, iteM, bd, consM, methM, lmethM, chkL, var_eq, pu, no, getF, setF, attrM, putM, lstM, tupM, endFn, newM, newLob, blank, setV, u_none, u_bool, u_int, u_str, u_bytes, u_ins, u_lob, u_lst, u_lsb, u_tup, Ins.get, Ins.put, bin2, cmp2, boolV, orM, andM, notM, truthM, addM, subM, modM, divM, ltM, gtM, addLM, mulLM, itemsM, items2M, lenM, getItemM, idxM, appendM, extendM, popM, getL1, putL1, lookL, putSeg, pushL1, unpackM, consA, nilA, swapM, isM, isNotM, isF, frzV, frz0, hw, eqM, eqF, eqAll]
    have e4 : asgM (lmethM (var 4) (consM (pu (.int 0)) (pu [])) popM) (unpackM 2 (consA (setV 6) (consA (setV 12) (nilA)))) ⟨[l0, .lob 1, l2, .ins 0, .lob 0, put, taken, .int tn, l8, (.ins (t + 1)), (.lst ans'), l11, l12], q' :: cs', [[(1, ans ++ ans'), (0, waitOf t ps)]], (N + 1)⟩ = some (.next, ⟨[l0, .lob 1, l2, .ins 0, .lob 0, put, p, .int tn, l8, (.ins (t + 1)), (.lst ans'), l11, (.int τ)], q' :: cs', [[(1, ans ++ ans'), (0, waitOf (t + 1) ps)]], (N + 1)⟩) := by rw [hw]; simp [callM, runFn, thenM, asgM, retM, dropM, iteM, bd, consM, methM, lmethM, chkL, var_eq, pu, no, getF, setF, attrM, putM, lstM, tupM, endFn, newM, newLob, blank, setV, u_none, u_bool, u_int, u_str, u_bytes, u_ins, u_lob, u_lst, u_lsb, u_tup, Ins.get, Ins.put, bin2, cmp2, boolV, orM, andM, notM, truthM, addM, subM, modM, divM, ltM, gtM, addLM, mulLM, itemsM, items2M, lenM, getItemM, idxM, appendM, extendM, popM, getL1, putL1, lookL, putSeg, pushL1, unpackM, consA, nilA, swapM, isM, isNotM, isF, frzV, frz0, hwl]
    have e5 : asgM (bd (consM (var 9) (pu [])) (callM F_law_told)) (setV 11) ⟨[l0, .lob 1, l2, .ins 0, .lob 0, put, p, .int tn, l8, (.ins (t + 1)), (.lst ans'), l11, (.int τ)], q' :: cs', [[(1, ans ++ ans'), (0, waitOf (t + 1) ps)]], (N + 1)⟩ = some (.next, ⟨[l0, .lob 1, l2, .ins 0, .lob 0, put, p, .int tn, l8, (.ins (t + 1)), (.lst ans'), (.lst [p, .int τ, .int tn, .none, .none]), (.int τ)], q' :: cs', [[(1, ans ++ ans'), (0, waitOf (t + 1) ps)]], (N + 1)⟩) := by
      have y := told_is (st := ⟨[l0, .lob 1, l2, .ins 0, .lob 0, put, p, .int tn, l8, (.ins (t + 1)), (.lst ans'), l11, (.int τ)], q' :: cs', [[(1, ans ++ ans'), (0, waitOf (t + 1) ps)]], (N + 1)⟩) (k := t + 1) (i := ⟨p, .int τ, .int tn, .none, .none⟩) hcell
      have y' : bd (consM (var 9) (pu [])) (callM F_law_told) ⟨[l0, .lob 1, l2, .ins 0, .lob 0, put, p, .int tn, l8, (.ins (t + 1)), (.lst ans'), l11, (.int τ)], q' :: cs', [[(1, ans ++ ans'), (0, waitOf (t + 1) ps)]], (N + 1)⟩ = callM F_law_told [.ins (t + 1)] ⟨[l0, .lob 1, l2, .ins 0, .lob 0, put, p, .int tn, l8, (.ins (t + 1)), (.lst ans'), l11, (.int τ)], q' :: cs', [[(1, ans ++ ans'), (0, waitOf (t + 1) ps)]], (N + 1)⟩ := by simp [bd, consM, pu, var_eq, u_none, u_bool, u_int, u_str, u_bytes, u_ins, u_lob, u_lst, u_lsb, u_tup]
      rw [asgM, bd, y', y]
      rfl
    have e6 : partSame ⟨[l0, .lob 1, l2, .ins 0, .lob 0, put, p, .int tn, l8, (.ins (t + 1)), (.lst ans'), (.lst [p, .int τ, .int tn, .none, .none]), (.int τ)], q' :: cs', [[(1, ans ++ ans'), (0, waitOf (t + 1) ps)]], (N + 1)⟩ = some (.next, ⟨[l0, .lob 1, l2, .ins 0, .lob 0, put, p, .int tn, l8, (.ins (t + 1)), (.lst ans'), (.lst [p, .int τ, .int tn, .none, .none]), (.int τ)], q' :: cs', [[(1, ans ++ ans'), (0, waitOf (t + 1) ps)]], (N + 1)⟩) := by
      have a1 : ∀ st : AS, eqF st 7 p p = some true := fun st => pl_eq hp st 6
      have a2 : ∀ (st : AS) (i : Int), eqF st 7 (.int i) (.int i) = some true := fun st i => pl_eq rfl st 6
      have a3 : ∀ st : AS, eqF st 7 .none .none = some true := fun st => rfl
      simp [partSame, callM, runFn, thenM, asgM, retM, dropM, iteM, bd, consM, methM, lmethM, chkL, var_eq, pu, no, getF, setF, attrM, putM, lstM, tupM, endFn, newM, newLob, blank, setV, u_none, u_bool, u_int, u_str, u_bytes, u_ins, u_lob, u_lst, u_lsb, u_tup, Ins.get, Ins.put, bin2, cmp2, boolV, orM, andM, notM, truthM, addM, subM, modM, divM, ltM, gtM, addLM, mulLM, itemsM, items2M, lenM, getItemM, idxM, appendM, extendM, popM, getL1, putL1, lookL, putSeg, pushL1, unpackM, consA, nilA, swapM, isM, isNotM, isF, frzV, frz0, hpu', neM, eqF, eqAll, a1, a2, a3, typeM, hty]
    rw [then_next e1, then_next e2, then_next ((ite_f e3).trans ((then_next e4).trans ((then_next e5).trans (then_next e6))))]
    rfl

theorem body_step {l0 l2 l9 l10 l11 l12 put taken : AV} {tn x : Int} {t f m : Nat} {ps : List (AV × Int)} {q : Ins} {cs : List Ins} {ans : List AV} {N : Nat} (J : JQ t f m ps cs q put taken) (hm : m ≤ 200) (ha : ans.length ≤ 90000) :
    ∃ put' taken' t' f' m' ps' q' cs' ans' k9 k10 k11 k12 N', B_law_1 ⟨[l0, .lob 1, l2, .ins 0, .lob 0, put, taken, .int tn, .int x, l9, l10, l11, l12], q :: cs, [[(1, ans), (0, waitOf t ps)]], N⟩ = some (.next, ⟨[l0, .lob 1, l2, .ins 0, .lob 0, put', taken', .int tn, .int x, k9, k10, k11, k12], q' :: cs', [[(1, ans ++ ans'), (0, waitOf t' ps')]], N'⟩) ∧ JQ t' f' m' ps' cs' q' put' taken' ∧ m' ≤ m + 1 ∧ ans'.length ≤ 610 ∧ (∀ x ∈ ans', x = .none) := by
  rw [body_parts]
  have hc : ∀ {t f m : Nat} {ps : List (AV × Int)} {q : Ins} {cs : List Ins} {put taken l9 l10 l11 l12 : AV} {ans : List AV} {N : Nat}, JQ t f m ps cs q put taken → m ≤ 300 → thenM chk (pu .next) ⟨[l0, .lob 1, l2, .ins 0, .lob 0, put, taken, .int tn, .int x, l9, l10, l11, l12], q :: cs, [[(1, ans), (0, waitOf t ps)]], N⟩ = some (.next, ⟨[l0, .lob 1, l2, .ins 0, .lob 0, put, taken, .int tn, .int x, l9, l10, l11, l12], q :: cs, [[(1, ans), (0, waitOf t ps)]], N⟩) := by
    intro t f m ps q cs put taken l9 l10 l11 l12 ans N J hm
    have hq := J.q_
    have tf := J.tf
    have fm := J.fm
    have hlen := J.len
    rw [then_next (chk_is (q := q) (wait := waitOf t ps) (by rw [hq]) (by rw [hq, wait_len]; dsimp only; congr 1; omega) (by rw [hq]) J.pp J.tp (by rw [wait_len]; omega))]
    rfl
  by_cases hx : x % 3 < 2
  · have e0 : cmp2 (bin2 (var 8) (pu (.int 3)) modM) (pu (.int 2)) ltM ⟨[l0, .lob 1, l2, .ins 0, .lob 0, put, taken, .int tn, .int x, l9, l10, l11, l12], q :: cs, [[(1, ans), (0, waitOf t ps)]], N⟩ = some (true, ⟨[l0, .lob 1, l2, .ins 0, .lob 0, put, taken, .int tn, .int x, l9, l10, l11, l12], q :: cs, [[(1, ans), (0, waitOf t ps)]], N⟩) := by simp [callM, runFn, thenM, asgM, retM, dropM, iteM, bd, consM, methM, lmethM, chkL, var_eq, pu, no, getF, setF, attrM, putM, lstM, tupM, endFn, newM, newLob, blank, setV, u_none, u_bool, u_int, u_str, u_bytes, u_ins, u_lob, u_lst, u_lsb, u_tup, Ins.get, Ins.put, bin2, cmp2, boolV, orM, andM, notM, truthM, addM, subM, modM, divM, ltM, gtM, addLM, mulLM, itemsM, items2M, lenM, getItemM, idxM, appendM, extendM, popM, getL1, putL1, lookL, putSeg, pushL1, unpackM, consA, nilA, swapM, isM, isNotM, isF, frzV, frz0, hx]
    obtain ⟨v, q', cs', h1, J'⟩ := put_step (l0 := l0) (l2 := l2) (l9 := l9) (l10 := l10) (l11 := l11) (l12 := l12) (tn := tn) (x := x) (N := N) J hm ha
    refine ⟨v, taken, t, f, m + 1, _, q', cs', [.none, .none, .none, .none, .none], l9, l10, l11, l12, N, ?_, J', by omega, by simp, by simp⟩
    rw [then_next ((ite_t e0).trans h1)]
    exact hc J' (by omega)
  · have e0 : cmp2 (bin2 (var 8) (pu (.int 3)) modM) (pu (.int 2)) ltM ⟨[l0, .lob 1, l2, .ins 0, .lob 0, put, taken, .int tn, .int x, l9, l10, l11, l12], q :: cs, [[(1, ans), (0, waitOf t ps)]], N⟩ = some (false, ⟨[l0, .lob 1, l2, .ins 0, .lob 0, put, taken, .int tn, .int x, l9, l10, l11, l12], q :: cs, [[(1, ans), (0, waitOf t ps)]], N⟩) := by simp [callM, runFn, thenM, asgM, retM, dropM, iteM, bd, consM, methM, lmethM, chkL, var_eq, pu, no, getF, setF, attrM, putM, lstM, tupM, endFn, newM, newLob, blank, setV, u_none, u_bool, u_int, u_str, u_bytes, u_ins, u_lob, u_lst, u_lsb, u_tup, Ins.get, Ins.put, bin2, cmp2, boolV, orM, andM, notM, truthM, addM, subM, modM, divM, ltM, gtM, addLM, mulLM, itemsM, items2M, lenM, getItemM, idxM, appendM, extendM, popM, getL1, putL1, lookL, putSeg, pushL1, unpackM, consA, nilA, swapM, isM, isNotM, isF, frzV, frz0, hx]
    obtain ⟨t', f', taken', q', cs', ans', k9, k10, k11, k12, N', h1, J', h2, h3⟩ := take_step (l0 := l0) (l2 := l2) (l8 := .int x) (l9 := l9) (l10 := l10) (l11 := l11) (l12 := l12) (tn := tn) (N := N) J hm ha
    refine ⟨put, taken', t', f', m, ps, q', cs', ans', k9, k10, k11, k12, N', ?_, J', by omega, h2, h3⟩
    rw [then_next ((ite_f e0).trans h1)]
    exact hc J' (by omega)

theorem all_turns : ∀ (xs : List Int) (i : Nat) {l0 l2 l7 l8 l9 l10 l11 l12 put taken : AV} {t f m : Nat} {ps : List (AV × Int)} {q : Ins} {cs : List Ins} {ans : List AV} {N : Nat}, JQ t f m ps cs q put taken → m + xs.length ≤ 200 → ans.length + 610 * xs.length ≤ 90000 → (∀ x ∈ ans, x = .none) →
    ∃ l5 l6 l7' l8' l9' l10' l11' l12' ins' w' ans' N', forG nxL (unpackM 2 (consA (setV 7) (consA (setV 8) (nilA)))) B_law_1 (xs.length + 1) (enumL i (xs.map .int)) ⟨[l0, .lob 1, l2, .ins 0, .lob 0, put, taken, l7, l8, l9, l10, l11, l12], q :: cs, [[(1, ans), (0, waitOf t ps)]], N⟩ = some (.next, ⟨[l0, .lob 1, l2, .ins 0, .lob 0, l5, l6, l7', l8', l9', l10', l11', l12'], ins', [[(1, ans'), (0, w')]], N'⟩) ∧ ans'.length ≤ 90000 ∧ ∀ x ∈ ans', x = .none
  | [], i, l0, l2, l7, l8, l9, l10, l11, l12, put, taken, t, f, m, ps, q, cs, ans, N, J, h1, h2, h3 => ⟨_, _, _, _, _, _, _, _, _, _, _, _, rfl, by simpa using h2, h3⟩
  | x :: xs, i, l0, l2, l7, l8, l9, l10, l11, l12, put, taken, t, f, m, ps, q, cs, ans, N, J, h1, h2, h3 => by
    rw [List.length_cons] at h1 h2
    obtain ⟨put', taken', t', f', m', ps', q', cs', ans', k9, k10, k11, k12, N', e1, J', b1, b2, b3⟩ := body_step (l0 := l0) (l2 := l2) (l9 := l9) (l10 := l10) (l11 := l11) (l12 := l12) (tn := i) (x := x) (N := N) J (by omega) (show ans.length ≤ 90000 by omega)
    obtain ⟨l5, l6, l7', l8', l9', l10', l11', l12', ins', w', ans2, N2, e2, c1, c2⟩ := all_turns xs (i + 1) (l0 := l0) (l2 := l2) (l7 := .int i) (l8 := .int x) (l9 := k9) (l10 := k10) (l11 := k11) (l12 := k12) (N := N') J' (by omega) (ans := ans ++ ans') (by rw [List.length_append]; omega) (fun y hy => (List.mem_append.mp hy).elim (h3 y) (b3 y))
    refine ⟨l5, l6, l7', l8', l9', l10', l11', l12', ins', w', ans2, N2, ?_, c1, c2⟩
    rw [List.length_cons, List.map_cons, enumL]
    show (bd (unpackM 2 (consA (setV 7) (consA (setV 8) (nilA))) (.tup [.int i, .int x])) fun _ => thenM B_law_1 (forG nxL _ B_law_1 (xs.length + 1) (enumL (i + 1) (xs.map .int)))) _ = _
    have e0 : unpackM 2 (consA (setV 7) (consA (setV 8) (nilA))) (.tup [.int i, .int x]) ⟨[l0, .lob 1, l2, .ins 0, .lob 0, put, taken, l7, l8, l9, l10, l11, l12], q :: cs, [[(1, ans), (0, waitOf t ps)]], N⟩ = some ((), ⟨[l0, .lob 1, l2, .ins 0, .lob 0, put, taken, .int i, .int x, l9, l10, l11, l12], q :: cs, [[(1, ans), (0, waitOf t ps)]], N⟩) := by simp [unpackM, consA, nilA, setV, bd, pu]
    rw [bd, e0]
    dsimp only
    rw [then_next e1]
    exact e2

theorem eqAll_nones (st : AS) : ∀ (xs : List AV), (∀ x ∈ xs, x = .none) → eqAll (eqF st 7) xs (List.replicate xs.length .none) = some true
  | [], _ => rfl
  | x :: xs, h => by
    have hx : x = .none := h x List.mem_cons_self
    have ih := eqAll_nones st xs (fun y hy => h y (List.mem_cons_of_mem _ hy))
    subst hx
    have e : eqF st 7 .none .none = some true := rfl
    rw [List.length_cons, List.replicate_succ]
    simp [eqAll, e, ih]

theorem plain_1 (S : AV) : asgM (bd (consM (bd (pu []) newM) (consM (bd (pu []) newLob) (consM (pu .none) (consM (pu .none) (pu []))))) tupM) (unpackM 4 (consA (setV 3) (consA (setV 4) (consA (setV 5) (consA (setV 6) (nilA)))))) ⟨[S, .unb, .unb, .unb, .unb, .unb, .unb, .unb, .unb, .unb, .unb, .unb, .unb], [], [[]], 0⟩ = some (.next, ⟨[S, .unb, .unb, .ins 0, .lob 0, .none, .none, .unb, .unb, .unb, .unb, .unb, .unb], [⟨.none, .none, .none, .none, .none⟩], [[(0, [])]], 1⟩) := by
  simp [callM, runFn, thenM, asgM, retM, dropM, iteM, bd, consM, methM, lmethM, chkL, var_eq, pu, no, getF, setF, attrM, putM, lstM, tupM, endFn, newM, newLob, blank, setV, u_none, u_bool, u_int, u_str, u_bytes, u_ins, u_lob, u_lst, u_lsb, u_tup, Ins.get, Ins.put, bin2, cmp2, boolV, orM, andM, notM, truthM, addM, subM, modM, divM, ltM, gtM, addLM, mulLM, itemsM, items2M, lenM, getItemM, idxM, appendM, extendM, popM, getL1, putL1, lookL, putSeg, pushL1, unpackM, consA, nilA, swapM, isM, isNotM, isF, frzV, frz0]
theorem plain_2 (S : AV) : iteM (orM (cmp2 (bd (consM (var 3) (pu [])) (callM F_law_told)) (bin2 (bd (consM (pu .none) (pu [])) lstM) (pu (.int 5)) mulLM) neM) (orM (notM (bd (bd (consM (var 3) (pu [])) (callM F_law_washed)) truthM)) (pu false))) (thenM (retM (pu (.bool false)))
      (pu .next)) (pu .next) ⟨[S, .unb, .unb, .ins 0, .lob 0, .none, .none, .unb, .unb, .unb, .unb, .unb, .unb], [⟨.none, .none, .none, .none, .none⟩], [[(0, [])]], 1⟩ = some (.next, ⟨[S, .unb, .unb, .ins 0, .lob 0, .none, .none, .unb, .unb, .unb, .unb, .unb, .unb], [⟨.none, .none, .none, .none, .none⟩], [[(0, [])]], 1⟩) := by
  have t1 := told_is (st := ⟨[S, .unb, .unb, .ins 0, .lob 0, .none, .none, .unb, .unb, .unb, .unb, .unb, .unb], [⟨.none, .none, .none, .none, .none⟩], [[(0, [])]], 1⟩) (k := 0) (i := ⟨.none, .none, .none, .none, .none⟩) rfl
  have t2 := washed_is (v := .none) (st := ⟨[S, .unb, .unb, .ins 0, .lob 0, .none, .none, .unb, .unb, .unb, .unb, .unb, .unb], [⟨.none, .none, .none, .none, .none⟩], [[(0, [])]], 1⟩) (q := ⟨.none, .none, .none, .none, .none⟩) (cs := []) rfl
  have z : consM (var 3) (pu []) ⟨[S, .unb, .unb, .ins 0, .lob 0, .none, .none, .unb, .unb, .unb, .unb, .unb, .unb], [⟨.none, .none, .none, .none, .none⟩], [[(0, [])]], 1⟩ = some ([.ins 0], ⟨[S, .unb, .unb, .ins 0, .lob 0, .none, .none, .unb, .unb, .unb, .unb, .unb, .unb], [⟨.none, .none, .none, .none, .none⟩], [[(0, [])]], 1⟩) := by simp [callM, runFn, thenM, asgM, retM, dropM, iteM, bd, consM, methM, lmethM, chkL, var_eq, pu, no, getF, setF, attrM, putM, lstM, tupM, endFn, newM, newLob, blank, setV, u_none, u_bool, u_int, u_str, u_bytes, u_ins, u_lob, u_lst, u_lsb, u_tup, Ins.get, Ins.put, bin2, cmp2, boolV, orM, andM, notM, truthM, addM, subM, modM, divM, ltM, gtM, addLM, mulLM, itemsM, items2M, lenM, getItemM, idxM, appendM, extendM, popM, getL1, putL1, lookL, putSeg, pushL1, unpackM, consA, nilA, swapM, isM, isNotM, isF, frzV, frz0]
  have t1' : bd (consM (var 3) (pu [])) (callM F_law_told) ⟨[S, .unb, .unb, .ins 0, .lob 0, .none, .none, .unb, .unb, .unb, .unb, .unb, .unb], [⟨.none, .none, .none, .none, .none⟩], [[(0, [])]], 1⟩ = some (.lst [.none, .none, .none, .none, .none], ⟨[S, .unb, .unb, .ins 0, .lob 0, .none, .none, .unb, .unb, .unb, .unb, .unb, .unb], [⟨.none, .none, .none, .none, .none⟩], [[(0, [])]], 1⟩) := by
    rw [bd, z]; exact t1
  have t2' : bd (consM (var 3) (pu [])) (callM F_law_washed) ⟨[S, .unb, .unb, .ins 0, .lob 0, .none, .none, .unb, .unb, .unb, .unb, .unb, .unb], [⟨.none, .none, .none, .none, .none⟩], [[(0, [])]], 1⟩ = some (.bool true, ⟨[S, .unb, .unb, .ins 0, .lob 0, .none, .none, .unb, .unb, .unb, .unb, .unb, .unb], [⟨.none, .none, .none, .none, .none⟩], [[(0, [])]], 1⟩) := by
    rw [bd, z]; exact t2
  generalize bd (consM (var 3) (pu [])) (callM F_law_told) = T1 at t1' ⊢
  generalize bd (consM (var 3) (pu [])) (callM F_law_washed) = T2 at t2' ⊢
  have a3 : ∀ st : AS, eqF st 7 .none .none = some true := fun st => rfl
  simp [callM, runFn, thenM, asgM, retM, dropM, iteM, bd, consM, methM, lmethM, chkL, var_eq, pu, no, getF, setF, attrM, putM, lstM, tupM, endFn, newM, newLob, blank, setV, u_none, u_bool, u_int, u_str, u_bytes, u_ins, u_lob, u_lst, u_lsb, u_tup, Ins.get, Ins.put, bin2, cmp2, boolV, orM, andM, notM, truthM, addM, subM, modM, divM, ltM, gtM, addLM, mulLM, itemsM, items2M, lenM, getItemM, idxM, appendM, extendM, popM, getL1, putL1, lookL, putSeg, pushL1, unpackM, consA, nilA, swapM, isM, isNotM, isF, frzV, frz0, t1', t2', neM, eqF, eqAll, List.replicate, a3]
theorem plain_3 (S : AV) : asgM (bd (consM (methM (var 3) (consM (pu (.int 0)) (pu [])) (setF .pub)) (pu [])) newLob) (setV 1) ⟨[S, .unb, .unb, .ins 0, .lob 0, .none, .none, .unb, .unb, .unb, .unb, .unb, .unb], [⟨.none, .none, .none, .none, .none⟩], [[(0, [])]], 1⟩ = some (.next, ⟨[S, .lob 1, .unb, .ins 0, .lob 0, .none, .none, .unb, .unb, .unb, .unb, .unb, .unb], [⟨.none, .int 0, .none, .none, .none⟩], [[(1, [.none]), (0, [])]], 2⟩) := by simp [callM, runFn, thenM, asgM, retM, dropM, iteM, bd, consM, methM, lmethM, chkL, var_eq, pu, no, getF, setF, attrM, putM, lstM, tupM, endFn, newM, newLob, blank, setV, u_none, u_bool, u_int, u_str, u_bytes, u_ins, u_lob, u_lst, u_lsb, u_tup, Ins.get, Ins.put, bin2, cmp2, boolV, orM, andM, notM, truthM, addM, subM, modM, divM, ltM, gtM, addLM, mulLM, itemsM, items2M, lenM, getItemM, idxM, appendM, extendM, popM, getL1, putL1, lookL, putSeg, pushL1, unpackM, consA, nilA, swapM, isM, isNotM, isF, frzV, frz0]
theorem plain_4 (ns ms : List Int) (hns : ms = [0, 4, 2, 9, 2, 2, 2] ++ ns) (h : ms.length ≤ 70) {S : AV} (hS : S = .lsb (ns.map .int)) : asgM (bin2 (bd (consM (pu (.int 0)) (consM (pu (.int 4)) (consM (pu (.int 2)) (consM (pu (.int 9)) (consM (pu (.int 2)) (consM (pu (.int 2)) (consM (pu (.int 2)) (pu [])))))))) lstM) (var 0) addM) (setV 2) ⟨[S, .lob 1, .unb, .ins 0, .lob 0, .none, .none, .unb, .unb, .unb, .unb, .unb, .unb], [⟨.none, .int 0, .none, .none, .none⟩], [[(1, [.none]), (0, [])]], 2⟩ = some (.next, ⟨[S, .lob 1, .lst (ms.map .int), .ins 0, .lob 0, .none, .none, .unb, .unb, .unb, .unb, .unb, .unb], [⟨.none, .int 0, .none, .none, .none⟩], [[(1, [.none]), (0, [])]], 2⟩) := by
  subst hns hS
  have h7 : 7 + ns.length ≤ 100000 := by simp at h; omega
  simp [callM, runFn, thenM, asgM, retM, dropM, iteM, bd, consM, methM, lmethM, chkL, var_eq, pu, no, getF, setF, attrM, putM, lstM, tupM, endFn, newM, newLob, blank, setV, u_none, u_bool, u_int, u_str, u_bytes, u_ins, u_lob, u_lst, u_lsb, u_tup, Ins.get, Ins.put, bin2, cmp2, boolV, orM, andM, notM, truthM, addM, subM, modM, divM, ltM, gtM, addLM, mulLM, itemsM, items2M, lenM, getItemM, idxM, appendM, extendM, popM, getL1, putL1, lookL, putSeg, pushL1, unpackM, consA, nilA, swapM, isM, isNotM, isF, frzV, frz0, h7]
theorem plain_5 (ms : List Int) (h : ms.length ≤ 70) (S : AV) : bd (bd (bin2 (var 2) (bin2 (bd (consM (pu (.int 2)) (pu [])) lstM) (bd (consM (var 2) (pu [])) lenM) mulLM) addM) fun x => pu [x]) enumIt ⟨[S, .lob 1, .lst (ms.map .int), .ins 0, .lob 0, .none, .none, .unb, .unb, .unb, .unb, .unb, .unb], [⟨.none, .int 0, .none, .none, .none⟩], [[(1, [.none]), (0, [])]], 2⟩ = some (enumL 0 ((ms ++ List.replicate ms.length 2).map .int), ⟨[S, .lob 1, .lst (ms.map .int), .ins 0, .lob 0, .none, .none, .unb, .unb, .unb, .unb, .unb, .unb], [⟨.none, .int 0, .none, .none, .none⟩], [[(1, [.none]), (0, [])]], 2⟩) := by
  have g2 : ms.length ≤ 100000 := by omega
  have g3 : ms.length + ms.length ≤ 100000 := by omega
  have g4 : (ms.length : Int) ≤ 100000 := by omega
  simp [callM, runFn, thenM, asgM, retM, dropM, iteM, bd, consM, methM, lmethM, chkL, var_eq, pu, no, getF, setF, attrM, putM, lstM, tupM, endFn, newM, newLob, blank, setV, u_none, u_bool, u_int, u_str, u_bytes, u_ins, u_lob, u_lst, u_lsb, u_tup, Ins.get, Ins.put, bin2, cmp2, boolV, orM, andM, notM, truthM, addM, subM, modM, divM, ltM, gtM, addLM, mulLM, itemsM, items2M, lenM, getItemM, idxM, appendM, extendM, popM, getL1, putL1, lookL, putSeg, pushL1, unpackM, consA, nilA, swapM, isM, isNotM, isF, frzV, frz0, enumIt, g2, g3, g4]
theorem plain_6 (ms : List Int) (h : ms.length ≤ 70) (S : AV) : ∃ l5 l6 l7' l8' l9' l10' l11' l12' ins' w' ans' N', forM' (bd (bd (bin2 (var 2) (bin2 (bd (consM (pu (.int 2)) (pu [])) lstM) (bd (consM (var 2) (pu [])) lenM) mulLM) addM) fun x => pu [x]) enumIt) sizeL nxL (unpackM 2 (consA (setV 7) (consA (setV 8) (nilA)))) (B_law_1) ⟨[S, .lob 1, .lst (ms.map .int), .ins 0, .lob 0, .none, .none, .unb, .unb, .unb, .unb, .unb, .unb], [⟨.none, .int 0, .none, .none, .none⟩], [[(1, [.none]), (0, [])]], 2⟩ = some (.next, ⟨[S, .lob 1, .lst (ms.map .int), .ins 0, .lob 0, l5, l6, l7', l8', l9', l10', l11', l12'], ins', [[(1, ans'), (0, w')]], N'⟩) ∧ ans'.length ≤ 90000 ∧ ∀ x ∈ ans', x = .none := by
  have J0 : JQ 0 0 0 [] [] ⟨.none, .int 0, .none, .none, .none⟩ .none .none := ⟨Nat.le_refl _, Nat.le_refl _, rfl, rfl, ⟨fun i a b => by omega⟩, ⟨fun i a b => by omega⟩, rfl, by simp, rfl, rfl⟩
  have hl : (ms ++ List.replicate ms.length (2 : Int)).length = ms.length + ms.length := by simp
  obtain ⟨l5, l6, l7', l8', l9', l10', l11', l12', ins', w', ans', N', e5, c1, c2⟩ := all_turns (ms ++ List.replicate ms.length 2) 0 (l0 := S) (l2 := .lst (ms.map .int)) (l7 := .unb) (l8 := .unb) (l9 := .unb) (l10 := .unb) (l11 := .unb) (l12 := .unb) J0 (ans := [.none]) (N := 2) (by omega) (by rw [hl]; simp only [List.length_cons, List.length_nil]; omega) (by simp)
  refine ⟨l5, l6, l7', l8', l9', l10', l11', l12', ins', w', ans', N', ?_, c1, c2⟩
  rw [forM', bd, plain_5 ms h S]
  dsimp only
  unfold sizeL
  rw [enumL_len, List.length_map]
  have w0 : waitOf 0 [] = [] := rfl
  rw [w0] at e5
  exact e5
theorem plain_7 (S a2 : AV) {l5 l6 l7 l8 l9 l10 l11 l12 : AV} {ins : List Ins} {w ans : List AV} {N : Nat} (c1 : ans.length ≤ 90000) (c2 : ∀ x ∈ ans, x = .none) : thenM (retM (boolV (cmp2 (var 1) (bin2 (bd (consM (pu .none) (pu [])) lstM) (bd (consM (var 1) (pu [])) lenM) mulLM) eqM))) (pu .next) ⟨[S, .lob 1, a2, .ins 0, .lob 0, l5, l6, l7, l8, l9, l10, l11, l12], ins, [[(1, ans), (0, w)]], N⟩ =
    some (.ret (.bool true), ⟨[S, .lob 1, a2, .ins 0, .lob 0, l5, l6, l7, l8, l9, l10, l11, l12], ins, [[(1, ans), (0, w)]], N⟩) := by
  have c1' : ans.length ≤ 100000 := by omega
  have key := eqAll_nones ⟨[S, .lob 1, a2, .ins 0, .lob 0, l5, l6, l7, l8, l9, l10, l11, l12], ins, [[(1, ans), (0, w)]], N⟩ ans c2
  have c2' : (ans.length : Int) ≤ 100000 := by omega
  simp [callM, runFn, thenM, asgM, retM, dropM, iteM, bd, consM, methM, lmethM, chkL, var_eq, pu, no, getF, setF, attrM, putM, lstM, tupM, endFn, newM, newLob, blank, setV, u_none, u_bool, u_int, u_str, u_bytes, u_ins, u_lob, u_lst, u_lsb, u_tup, Ins.get, Ins.put, bin2, cmp2, boolV, orM, andM, notM, truthM, addM, subM, modM, divM, ltM, gtM, addLM, mulLM, itemsM, items2M, lenM, getItemM, idxM, appendM, extendM, popM, getL1, putL1, lookL, putSeg, pushL1, unpackM, consA, nilA, swapM, isM, isNotM, isF, frzV, frz0, c1', c2', eqM, eqF, key]

theorem plain (ns : List Int) (h : ns.length ≤ 63) : ∃ st', B_law ⟨.lsb (ns.map .int) :: List.replicate 12 .unb, [], [[]], 0⟩ = some (.ret (.bool true), st') := by
  have hu : List.replicate 12 AV.unb = [.unb, .unb, .unb, .unb, .unb, .unb, .unb, .unb, .unb, .unb, .unb, .unb] := rfl
  rw [hu]
  obtain ⟨S, hS⟩ : ∃ S, S = AV.lsb (ns.map .int) := ⟨_, rfl⟩
  obtain ⟨ms, hms⟩ : ∃ ms : List Int, ms = [0, 4, 2, 9, 2, 2, 2] ++ ns := ⟨_, rfl⟩
  have hl : ms.length ≤ 70 := by rw [hms]; simp; omega
  rw [← hS]
  obtain ⟨l5, l6, l7', l8', l9', l10', l11', l12', ins', w', ans', N', e6, c1, c2⟩ := plain_6 ms hl S
  rw [B_law, then_next (plain_1 S), then_next (plain_2 S), then_next (plain_3 S), then_next (plain_4 ns ms hms hl hS), then_next e6]
  exact ⟨_, plain_7 S _ c1 c2⟩

end Mine
set_option maxRecDepth 100000 in
set_option maxHeartbeats 8000000 in
theorem PySem.Challenge.cw_dn0304_02_holds : PySem.Challenge.rw_dn0304_02.Holds :=
  hd02 (by
  k_go0
  have KX := ‹(hd02.heap_39 _).In _›
  have T := ‹Top _ _ _ _ _ _›
  have F := ‹Fr _ _ _ _›
  have hL := ‹Heap.IsList _ _ _›
  have hI := ‹IntsAre _ _›
  have hB := T.builtins
  have G : Mine.Gd (Mine.cx _ _ _ _) := ⟨KX, T.g, T.b, T.nolimit⟩
  open Mine in
  refine Mine.law_ok (n := 12) (x := "script") (others := ["answers", "steps", "queue", "waiting", "put", "taken", "turn", "x", "cell", "given", "told", "since"]) (f := Mine.B_law) G (ImplS.cons (ImplS1.assign (ImplE.tuple (ImplEs.cons (e_new G rfl (ImplEs.nil)) (ImplEs.cons (ImplE.listMut (ImplEs.nil)) (ImplEs.cons (ImplE.cnone) (ImplEs.cons (ImplE.cnone) (ImplEs.nil)))))) (ImplA.tuple (ImplAs.cons (ImplA.name (i := 3) rfl (by decide +kernel)) (ImplAs.cons (ImplA.name (i := 4) rfl (by decide +kernel)) (ImplAs.cons (ImplA.name (i := 5) rfl (by decide +kernel)) (ImplAs.cons (ImplA.name (i := 6) rfl (by decide +kernel)) (ImplAs.nil))))))) (ImplS.cons (ImplS1.ite (ImplT.bool (ImplTs.or (ImplT.cmp (ImplE.callFn G rfl (g_law_told G) r_law_told (ImplEs.cons (ImplE.name (i := 3) rfl (by decide +kernel)) (ImplEs.nil)) (k_law_told G hB)) (ImplE.bin (ImplE.list (ImplEs.cons (ImplE.cnone) (ImplEs.nil))) (ImplE.cint) mulL_ok) ne_ok) (ImplTs.or (ImplT.not (ImplT.value (ImplE.callFn G rfl (g_law_washed G) r_law_washed (ImplEs.cons (ImplE.name (i := 3) rfl (by decide +kernel)) (ImplEs.nil)) (k_law_washed G hB)))) (ImplTs.orNil)))) (ImplS.cons (ImplS1.ret (ImplE.cbool)) (ImplS.nil)) (ImplS.nil)) (ImplS.cons (ImplS1.assign (ImplE.listMut (ImplEs.cons (ImplE.meth G cls m_setPublicId (ImplE.name (i := 3) rfl (by decide +kernel)) (ImplEs.cons (ImplE.cint) (ImplEs.nil)) (f_setPublicId G)) (ImplEs.nil))) (ImplA.name (i := 1) rfl (by decide +kernel))) (ImplS.cons (ImplS1.assign (ImplE.bin (ImplE.list (ImplEs.cons (ImplE.cint) (ImplEs.cons (ImplE.cint) (ImplEs.cons (ImplE.cint) (ImplEs.cons (ImplE.cint) (ImplEs.cons (ImplE.cint) (ImplEs.cons (ImplE.cint) (ImplEs.cons (ImplE.cint) (ImplEs.nil))))))))) (ImplE.name (i := 0) rfl (by decide +kernel)) add_ok) (ImplA.name (i := 2) rfl (by decide +kernel))) (ImplS.cons (ImplS1.for (size := sizeL) (ImplI.enumerate G rfl (g_enumerate G hB) (ImplE.bin (ImplE.name (i := 2) rfl (by decide +kernel)) (ImplE.bin (ImplE.list (ImplEs.cons (ImplE.cint) (ImplEs.nil))) (ImplE.callB G rfl (g_len G hB) (ImplEs.cons (ImplE.name (i := 2) rfl (by decide +kernel)) (ImplEs.nil)) len_ok) mulL_ok) add_ok)) (ImplA.tuple (ImplAs.cons (ImplA.name (i := 7) rfl (by decide +kernel)) (ImplAs.cons (ImplA.name (i := 8) rfl (by decide +kernel)) (ImplAs.nil)))) (ImplS.cons (ImplS1.ite (ImplT.cmp (ImplE.bin (ImplE.name (i := 8) rfl (by decide +kernel)) (ImplE.cint) mod_ok) (ImplE.cint) lt_ok) (ImplS.cons (ImplS1.assign (ImplE.item (ImplE.list (ImplEs.cons (ImplE.cint) (ImplEs.cons (ImplE.cstr) (ImplEs.cons (ImplE.cstr) (ImplEs.cons (ImplE.cbytes) (ImplEs.cons (ImplE.cnone) (ImplEs.nil))))))) (ImplE.bin (ImplE.bin (ImplE.name (i := 8) rfl (by decide +kernel)) (ImplE.cint) div_ok) (ImplE.cint) mod_ok)) (ImplA.name (i := 5) rfl (by decide +kernel))) (ImplS.cons (ImplS1.expr (ImplE.lmeth PySem.F.slot_list_append rfl (ImplE.name (i := 4) rfl (by decide +kernel)) (ImplEs.cons (ImplE.tuple (ImplEs.cons (ImplE.name (i := 5) rfl (by decide +kernel)) (ImplEs.cons (ImplE.name (i := 7) rfl (by decide +kernel)) (ImplEs.nil)))) (ImplEs.nil)) append_ok)) (ImplS.cons (ImplS1.expr (ImplE.lmeth PySem.F.slot_list_extend rfl (ImplE.name (i := 1) rfl (by decide +kernel)) (ImplEs.cons (ImplE.callFn G rfl (g_law_put G) r_law_put (ImplEs.cons (ImplE.name (i := 3) rfl (by decide +kernel)) (ImplEs.cons (ImplE.name (i := 5) rfl (by decide +kernel)) (ImplEs.cons (ImplE.name (i := 7) rfl (by decide +kernel)) (ImplEs.nil)))) (k_law_put G hB)) (ImplEs.nil)) extend_ok)) (ImplS.nil)))) (ImplS.cons (ImplS1.assign (ImplE.callFn G rfl (g_law_take G) r_law_take (ImplEs.cons (ImplE.name (i := 3) rfl (by decide +kernel)) (ImplEs.cons (ImplE.name (i := 7) rfl (by decide +kernel)) (ImplEs.nil))) (k_law_take G hB)) (ImplA.tuple (ImplAs.cons (ImplA.name (i := 9) rfl (by decide +kernel)) (ImplAs.cons (ImplA.name (i := 10) rfl (by decide +kernel)) (ImplAs.nil))))) (ImplS.cons (ImplS1.expr (ImplE.lmeth PySem.F.slot_list_extend rfl (ImplE.name (i := 1) rfl (by decide +kernel)) (ImplEs.cons (ImplE.name (i := 10) rfl (by decide +kernel)) (ImplEs.nil)) extend_ok)) (ImplS.cons (ImplS1.ite (ImplT.cmp (ImplE.name (i := 4) rfl (by decide +kernel)) (ImplE.list (ImplEs.nil)) eq_ok) (ImplS.cons (ImplS1.ite (ImplT.cmp (ImplE.name (i := 9) rfl (by decide +kernel)) (ImplE.cnone) isNot_ok) (ImplS.cons (ImplS1.ret (ImplE.cbool)) (ImplS.nil)) (ImplS.nil)) (ImplS.nil)) (ImplS.cons (ImplS1.assign (ImplE.lmeth PySem.F.slot_list_pop rfl (ImplE.name (i := 4) rfl (by decide +kernel)) (ImplEs.cons (ImplE.cint) (ImplEs.nil)) pop_ok) (ImplA.tuple (ImplAs.cons (ImplA.name (i := 6) rfl (by decide +kernel)) (ImplAs.cons (ImplA.name (i := 12) rfl (by decide +kernel)) (ImplAs.nil))))) (ImplS.cons (ImplS1.assign (ImplE.callFn G rfl (g_law_told G) r_law_told (ImplEs.cons (ImplE.name (i := 9) rfl (by decide +kernel)) (ImplEs.nil)) (k_law_told G hB)) (ImplA.name (i := 11) rfl (by decide +kernel))) (ImplS.cons (ImplS1.ite (ImplT.bool (ImplTs.or (ImplT.cmp (ImplE.name (i := 11) rfl (by decide +kernel)) (ImplE.list (ImplEs.cons (ImplE.name (i := 6) rfl (by decide +kernel)) (ImplEs.cons (ImplE.name (i := 12) rfl (by decide +kernel)) (ImplEs.cons (ImplE.name (i := 7) rfl (by decide +kernel)) (ImplEs.cons (ImplE.cnone) (ImplEs.cons (ImplE.cnone) (ImplEs.nil))))))) ne_ok) (ImplTs.or (ImplT.cmp (ImplE.callT G rfl (g_type G hB) (ImplEs.cons (ImplE.item (ImplE.name (i := 11) rfl (by decide +kernel)) (ImplE.cint)) (ImplEs.nil)) type_ok) (ImplE.callT G rfl (g_type G hB) (ImplEs.cons (ImplE.name (i := 6) rfl (by decide +kernel)) (ImplEs.nil)) type_ok) isNot_ok) (ImplTs.orNil)))) (ImplS.cons (ImplS1.ret (ImplE.cbool)) (ImplS.nil)) (ImplS.nil)) (ImplS.nil))))) (ImplS.nil))))) (ImplS.cons (ImplS1.ite (ImplT.cmp (ImplE.list (ImplEs.cons (ImplE.meth G cls m_getSystemId (ImplE.name (i := 3) rfl (by decide +kernel)) (ImplEs.nil) (f_getSystemId G)) (ImplEs.cons (ImplE.meth G cls m_getPublicId (ImplE.name (i := 3) rfl (by decide +kernel)) (ImplEs.nil) (f_getPublicId G)) (ImplEs.cons (ImplE.meth G cls m_getEncoding (ImplE.name (i := 3) rfl (by decide +kernel)) (ImplEs.nil) (f_getEncoding G)) (ImplEs.nil))))) (ImplE.list (ImplEs.cons (ImplE.name (i := 5) rfl (by decide +kernel)) (ImplEs.cons (ImplE.callB G rfl (g_len G hB) (ImplEs.cons (ImplE.name (i := 4) rfl (by decide +kernel)) (ImplEs.nil)) len_ok) (ImplEs.cons (ImplE.name (i := 6) rfl (by decide +kernel)) (ImplEs.nil))))) ne_ok) (ImplS.cons (ImplS1.ret (ImplE.cbool)) (ImplS.nil)) (ImplS.nil)) (ImplS.nil)))) (ImplS.cons (ImplS1.ret (ImplE.cmp (ImplE.name (i := 1) rfl (by decide +kernel)) (ImplE.bin (ImplE.list (ImplEs.cons (ImplE.cnone) (ImplEs.nil))) (ImplE.callB G rfl (g_len G hB) (ImplEs.cons (ImplE.name (i := 1) rfl (by decide +kernel)) (ImplEs.nil)) len_ok) mulL_ok) eq_ok)) (ImplS.nil)))))) ) (by decide) rfl (by decide +kernel) (by decide +kernel) F rfl hL hI (Mine.plain _ (by omega)) (fun s' k1 k2 k3 => ?_)
  refine ⟨.inl ⟨.bool true, .bool true, [], rfl, raisesW_false ?_, .bool true, ?_, fun _ => ⟨List.nodup_nil, fun _ h => by cases h⟩⟩, k1, k3, k2.trans ‹_›⟩
  · wrow_none_raised
  · first | wrow_post | kc_post)
