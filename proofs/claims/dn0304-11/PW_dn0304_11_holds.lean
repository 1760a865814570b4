import PyProof.Rows.All
import Wide.All
import OpenK.AllK
import Wide.FinOn
import PySem.Challenge.RW_dn0304_11
open PySem PySem.W PyProof.Rows
set_option Elab.async false
set_option maxRecDepth 100000
set_option linter.unusedVariables false
namespace Mine


inductive AV where
  | unb
  | none
  | bool (b : Bool)
  | int (i : Int)
  | str (s : Str)
  | bytes (b : Array UInt8)
  | val (v : Value)
  | ins (k : Nat)
  | lob (k : Nat)
  | lst (xs : List AV)
  | tup (xs : List AV)
  | lsb (xs : List AV)
inductive Fd where
  | sys | pub | enc | byt | chr
structure Ins where
  sys : AV
  pub : AV
  enc : AV
  byt : AV
  chr : AV
noncomputable def Ins.get (i : Ins) : Fd → AV
  | .sys => i.sys
  | .pub => i.pub
  | .enc => i.enc
  | .byt => i.byt
  | .chr => i.chr
noncomputable def Ins.put (i : Ins) (v : AV) : Fd → Ins
  | .sys => { i with sys := v }
  | .pub => { i with pub := v }
  | .enc => { i with enc := v }
  | .byt => { i with byt := v }
  | .chr => { i with chr := v }
abbrev LH := List (List (Nat × List AV))
structure AS where
  loc : List AV
  ins : List Ins
  lst : LH
  nl : Nat
noncomputable def lookL (k : Nat) : List (Nat × List AV) → Option (List AV)
  | [] => .none
  | (j, xs) :: r => if k = j then some xs else lookL k r
noncomputable def getL1 (k : Nat) : LH → Option (List AV)
  | [] => .none
  | g :: r => match lookL k g with | some xs => some xs | .none => getL1 k r
noncomputable def putSeg (k : Nat) (ys : List AV) : List (Nat × List AV) → List (Nat × List AV)
  | [] => []
  | (j, xs) :: r => if k = j then (j, ys) :: r else (j, xs) :: putSeg k ys r
noncomputable def putL1 (k : Nat) (ys : List AV) : LH → LH
  | [] => []
  | g :: r => match lookL k g with | some _ => putSeg k ys g :: r | .none => g :: putL1 k ys r
noncomputable def pushL1 (k : Nat) (xs : List AV) : LH → LH
  | [] => [[(k, xs)]]
  | g :: r => ((k, xs) :: g) :: r

inductive Role where
  | oth
  | ins (k : Nat)
  | dct (k : Nat)
  | lob (k : Nat)
  | frz (o : Obj)
structure Wd where
  role : Addr → Role
  ia : Nat → Addr
  da : Nat → Addr
  la : Nat → Addr
  ni : Nat
  nl : Nat
noncomputable def Role.mut : Role → Prop
  | .ins _ | .dct _ | .lob _ => True
  | _ => False
noncomputable def Wd.Mut (W : Wd) (a : Addr) : Prop := (W.role a).mut
abbrev tupOf (its : Array Value) (n : Nat) : Obj := { cls := .type "tuple", data := .seq its n }
mutual
inductive VR (W : Wd) : Value → AV → Prop
  | none : VR W .none .none
  | bool (b : Bool) : VR W (.bool b) (.bool b)
  | int (i : Int) (t : Tok) : VR W (.int i t) (.int i)
  | str (x : Str) (t : Tok) : VR W (.str x t) (.str x)
  | bytes (x : Array UInt8) (t : Tok) : VR W (.bytes x t) (.bytes x)
  | val (v : Value) (h : handedIn v = true) : VR W v (.val v)
  | ins (k : Nat) : k < W.ni → VR W (.ref (W.ia k)) (.ins k)
  | lob (k : Nat) : k < W.nl → VR W (.ref (W.la k)) (.lob k)
  | lst {a : Addr} {vs : List Value} {n : Nat} {xs : List AV} : W.role a = .frz (listOf vs.toArray n) → VRs W vs xs → VR W (.ref a) (.lst xs)
  | tup {a : Addr} {o : Obj} {vs : List Value} {n : Nat} {xs : List AV} : W.role a = .frz o → o.cls = .type "tuple" → o.data = .seq vs.toArray n → VRs W vs xs → VR W (.ref a) (.tup xs)
  | lsb {a : Addr} {o : Obj} {vs : List Value} {n : Nat} {xs : List AV} : W.role a = .frz o → o.cls = .type "list" → o.data = .seq vs.toArray n → VRs W vs xs → VR W (.ref a) (.lsb xs)
inductive VRs (W : Wd) : List Value → List AV → Prop
  | nil : VRs W [] []
  | cons {v : Value} {vs : List Value} {x : AV} {xs : List AV} : VR W v x → VRs W vs xs → VRs W (v :: vs) (x :: xs)
end

theorem VR.handed {W : Wd} {v : Value} {x : AV} (h : VR W v x) : handedIn v = true := by
  cases h <;> first | rfl | assumption
theorem VR.inv_none {W : Wd} {v : Value} (h : VR W v .none) : v = .none := by cases h; rfl
theorem VR.inv_bool {W : Wd} {v : Value} {b : Bool} (h : VR W v (.bool b)) : v = .bool b := by cases h; rfl
theorem VR.inv_int {W : Wd} {v : Value} {i : Int} (h : VR W v (.int i)) : ∃ t, v = .int i t := by cases h; exact ⟨_, rfl⟩
theorem VR.inv_str {W : Wd} {v : Value} {i : Str} (h : VR W v (.str i)) : ∃ t, v = .str i t := by cases h; exact ⟨_, rfl⟩
theorem VR.inv_bytes {W : Wd} {v : Value} {i : Array UInt8} (h : VR W v (.bytes i)) : ∃ t, v = .bytes i t := by cases h; exact ⟨_, rfl⟩
theorem VR.inv_val {W : Wd} {v u : Value} (h : VR W v (.val u)) : v = u := by cases h; rfl
theorem VR.inv_ins {W : Wd} {v : Value} {k : Nat} (h : VR W v (.ins k)) : v = .ref (W.ia k) ∧ k < W.ni := by cases h; exact ⟨rfl, by assumption⟩
theorem VR.inv_lob {W : Wd} {v : Value} {k : Nat} (h : VR W v (.lob k)) : v = .ref (W.la k) ∧ k < W.nl := by cases h; exact ⟨rfl, by assumption⟩
theorem VRs.length {W : Wd} {vs : List Value} {xs : List AV} (h : VRs W vs xs) : vs.length = xs.length := by
  induction vs generalizing xs with
  | nil => cases h; rfl
  | cons v vs ih => cases h with | cons _ r => rw [List.length_cons, List.length_cons, ih r]
theorem VRs.append {W : Wd} {vs ws : List Value} {xs ys : List AV} (h : VRs W vs xs) (k : VRs W ws ys) : VRs W (vs ++ ws) (xs ++ ys) := by
  induction vs generalizing xs with
  | nil => cases h; exact k
  | cons v vs ih => cases h with | cons a r => exact .cons a (ih r)
theorem VRs.get {W : Wd} {vs : List Value} {xs : List AV} (h : VRs W vs xs) {i : Nat} {x : AV} (e : xs[i]? = some x) : ∃ v, vs[i]? = some v ∧ VR W v x := by
  induction vs generalizing xs i with
  | nil => cases h; simp at e
  | cons v vs ih =>
    cases h with
    | cons a r =>
      cases i with
      | zero => simp at e; subst e; exact ⟨v, rfl, a⟩
      | succ i => simp at e; exact ih r e
theorem VRs.getv {W : Wd} {vs : List Value} {xs : List AV} (h : VRs W vs xs) {i : Nat} {v : Value} (e : vs[i]? = some v) : ∃ x, xs[i]? = some x ∧ VR W v x := by
  induction vs generalizing xs i with
  | nil => simp at e
  | cons w vs ih =>
    cases h with
    | cons a r =>
      cases i with
      | zero => simp at e; subst e; exact ⟨_, rfl, a⟩
      | succ i => simp at e; exact ih r e
theorem VRs.set {W : Wd} {v : Value} {x : AV} (hv : VR W v x) : ∀ {vs : List Value} {xs : List AV} (n : Nat), VRs W vs xs → VRs W (vs.set n v) (xs.set n x)
  | _, _, _, .nil => .nil
  | _, _, 0, .cons _ r => .cons hv r
  | _, _, n + 1, .cons a r => .cons a (VRs.set hv n r)
theorem VRs.reverse {W : Wd} : ∀ {vs : List Value} {xs : List AV}, VRs W vs xs → VRs W vs.reverse xs.reverse
  | _, _, .nil => .nil
  | _, _, .cons a r => by rw [List.reverse_cons, List.reverse_cons]; exact (VRs.reverse r).append (.cons a .nil)
theorem VRs.one {W : Wd} {v : Value} {x : AV} (hv : VR W v x) : VRs W [v] [x] := .cons hv .nil
structure Le (W W' : Wd) : Prop where
  ni : W.ni ≤ W'.ni
  nl : W.nl ≤ W'.nl
  ia : ∀ k, k < W.ni → W'.ia k = W.ia k
  da : ∀ k, k < W.ni → W'.da k = W.da k
  la : ∀ k, k < W.nl → W'.la k = W.la k
  frz : ∀ a o, W.role a = .frz o → W'.role a = .frz o
theorem Le.refl (W : Wd) : Le W W := ⟨Nat.le_refl _, Nat.le_refl _, fun _ _ => rfl, fun _ _ => rfl, fun _ _ => rfl, fun _ _ h => h⟩
theorem Le.trans {W W' W'' : Wd} (x : Le W W') (y : Le W' W'') : Le W W'' where
  ni := Nat.le_trans x.ni y.ni
  nl := Nat.le_trans x.nl y.nl
  ia := fun k h => (y.ia k (Nat.lt_of_lt_of_le h x.ni)).trans (x.ia k h)
  da := fun k h => (y.da k (Nat.lt_of_lt_of_le h x.ni)).trans (x.da k h)
  la := fun k h => (y.la k (Nat.lt_of_lt_of_le h x.nl)).trans (x.la k h)
  frz := fun a o h => y.frz a o (x.frz a o h)
mutual
theorem VR.mono {W W' : Wd} (L : Le W W') : ∀ {v : Value} {x : AV}, VR W v x → VR W' v x
  | _, _, .none => .none
  | _, _, .bool b => .bool b
  | _, _, .int i t => .int i t
  | _, _, .str x t => .str x t
  | _, _, .bytes x t => .bytes x t
  | _, _, .val v h => .val v h
  | _, _, .ins k h => by rw [← L.ia k h]; exact .ins k (Nat.lt_of_lt_of_le h L.ni)
  | _, _, .lob k h => by rw [← L.la k h]; exact .lob k (Nat.lt_of_lt_of_le h L.nl)
  | _, _, .lst h r => .lst (L.frz _ _ h) (VRs.mono L r)
  | _, _, .tup h h1 h2 r => .tup (L.frz _ _ h) h1 h2 (VRs.mono L r)
  | _, _, .lsb h h1 h2 r => .lsb (L.frz _ _ h) h1 h2 (VRs.mono L r)
theorem VRs.mono {W W' : Wd} (L : Le W W') : ∀ {vs : List Value} {xs : List AV}, VRs W vs xs → VRs W' vs xs
  | _, _, .nil => .nil
  | _, _, .cons a r => .cons (VR.mono L a) (VRs.mono L r)
end

noncomputable def fkey : Fd → Str
  | .sys => Str.ofString "_InputSource__system_id"
  | .pub => Str.ofString "_InputSource__public_id"
  | .enc => Str.ofString "_InputSource__encoding"
  | .byt => Str.ofString "_InputSource__bytefile"
  | .chr => Str.ofString "_InputSource__charfile"
inductive FieldsAre (W : Wd) : List DictEntry → Ins → Prop
  | mk {h1 h2 h3 h4 h5 : Int} {t1 t2 t3 t4 t5 : Tok} {v1 v2 v3 v4 v5 : Value} {i : Ins} :
      VR W v1 i.sys → VR W v2 i.pub → VR W v3 i.enc → VR W v4 i.byt → VR W v5 i.chr →
      FieldsAre W [⟨h1, .str (fkey .sys) t1, v1⟩, ⟨h2, .str (fkey .pub) t2, v2⟩, ⟨h3, .str (fkey .enc) t3, v3⟩, ⟨h4, .str (fkey .byt) t4, v4⟩, ⟨h5, .str (fkey .chr) t5, v5⟩] i
theorem FieldsAre.mono {W W' : Wd} (L : Le W W') {es : List DictEntry} {i : Ins} (h : FieldsAre W es i) : FieldsAre W' es i := by
  cases h with
  | mk a b c d e => exact .mk (a.mono L) (b.mono L) (c.mono L) (d.mono L) (e.mono L)
theorem fkey_is (f g : Fd) : (fkey f == fkey g) = decide (f.ctorIdx = g.ctorIdx) := by
  cases f <;> cases g <;> decide +kernel
theorem FieldsAre.get {W : Wd} {es : List DictEntry} {i : Ins} (h : FieldsAre W es i) (f : Fd) : ∃ v, PySem.W.getL (fkey f) es = some (some v) ∧ VR W v (i.get f) := by
  cases h with
  | mk a b c d e =>
    cases f <;> simp only [PySem.W.getL, List.find?, Value.isStr, fkey_is]
    · exact ⟨_, rfl, a⟩
    · exact ⟨_, rfl, b⟩
    · exact ⟨_, rfl, c⟩
    · exact ⟨_, rfl, d⟩
    · exact ⟨_, rfl, e⟩
theorem FieldsAre.put {W : Wd} {es : List DictEntry} {i : Ins} (h : FieldsAre W es i) (f : Fd) {v : Value} {x : AV} (hv : VR W v x) (hsh : Int) (key : Value) :
    FieldsAre W (PySem.W.putL (fkey f) hsh key v es) (i.put x f) := by
  cases h with
  | mk a b c d e =>
    cases f <;> simp only [PySem.W.putL, Value.isStr, fkey_is]
    · exact .mk hv b c d e
    · exact .mk a hv c d e
    · exact .mk a b hv d e
    · exact .mk a b c hv e
    · exact .mk a b c d hv
theorem FieldsAre.len {W : Wd} {es : List DictEntry} {i : Ins} (h : FieldsAre W es i) : es.length = 5 := by cases h; rfl
end Mine

namespace Mine

structure Cx where
  prog : Program
  w : World
  K : Frag
  C : Addr
  h0 : Heap
  mg : Str → Option Value
  mb : Str → Option Value
structure HR (c : Cx) (W : Wd) (st : AS) (h : Heap) : Prop where
  keep : ∀ a o, c.h0.get? a = some o → h.get? a = some o
  mutA : ∀ a, W.Mut a → c.h0.get? a = .none
  lt : ∀ a, W.role a = .oth ∨ ∃ o, h.get? a = some o
  frz : ∀ a o, W.role a = .frz o → h.get? a = some o
  ni : W.ni = st.ins.length
  nl : W.nl = st.nl
  iaR : ∀ k, k < W.ni → W.role (W.ia k) = .ins k ∧ W.role (W.da k) = .dct k
  insA : ∀ k i, st.ins[k]? = some i → ∃ es n, h.get? (W.ia k) = some (instObj c.C (W.da k)) ∧ h.get? (W.da k) = some (dictOf es n) ∧ FieldsAre W es i
  lstA : ∀ g ∈ st.lst, ∀ p ∈ g, p.1 < W.nl ∧ W.role (W.la p.1) = .lob p.1 ∧ ∃ vs n, h.get? (W.la p.1) = some (listOf vs.toArray n) ∧ VRs W vs p.2
  nodup : (st.lst.flatten.map (·.1)).Nodup
structure Sx where
  sc : Scope
  vars : List Str
  wr : List Str
structure Pl where
  A : Around
  sx : Sx
  env : Env
  wc : List Addr
noncomputable def Pl.Own (p : Pl) (a : Addr) : Prop := a = p.env.locals ∨ a ∈ p.wc
structure FrV (c : Cx) (p : Pl) (W : Wd) (loc : List AV) (h : Heap) : Prop where
  ns : ∃ ml, h.Ns p.env.locals ml ∧ ∀ (i : Nat) (x : Str) (v : AV), p.sx.vars[i]? = some x → loc[i]? = some v → v ≠ .unb → p.env.kindOf x = some .local → ∃ val, ml x = some val ∧ VR W val v
  cl : ∀ (i : Nat) (x : Str) (v : AV), p.sx.vars[i]? = some x → loc[i]? = some v → v ≠ .unb → p.env.kindOf x = some .cell → ∃ val a, p.env.cells.lookup x = some a ∧ h.IsCell a (some val) ∧ VR W val v
  cells : ∀ x a, p.env.cells.lookup x = some a → ∃ v, h.IsCell a v
  hasCell : ∀ x, x ∈ p.sx.vars → p.env.kindOf x = some .cell → ∃ a, p.env.cells.lookup x = some a ∧ (x ∈ p.sx.wr → a ∈ p.wc)
  kinds : ∀ x, x ∈ p.sx.vars → p.env.kindOf x = some .local ∨ p.env.kindOf x = some .cell
  apart : p.env.cells.Pairwise fun x y => x.2 ≠ y.2
  wcIn : ∀ a ∈ p.wc, ∃ x, p.env.cells.lookup x = some a
  roleL : W.role p.env.locals = .oth
  roleC : ∀ x a, p.env.cells.lookup x = some a → W.role a = .oth ∧ a ≠ p.env.locals ∧ c.h0.get? a = .none
  lo : c.h0.get? p.env.locals = .none
  scope : p.env.scope = p.sx.sc
  kind : p.sx.sc.kind = .function
  globals : p.env.globals = mainGlobals
  builtins : p.env.builtins = builtinsNs
  nodup : p.sx.vars.Nodup
structure Inv (c : Cx) (p : Pl) (W : Wd) (st : AS) (s : Shared) : Prop where
  hr : HR c W st s.heap
  fr : FrV c p W st.loc s.heap
structure Ext (own : Addr → Prop) (W : Wd) (s : Shared) (W' : Wd) (s' : Shared) : Prop where
  le : Le W W'
  alive : ∀ a o, s.heap.get? a = some o → ∃ o', s'.heap.get? a = some o'
  oth : ∀ a o, s.heap.get? a = some o → W.role a = .oth → W'.role a = .oth
  kept : ∀ a o, ¬ W.Mut a → ¬ own a → s.heap.get? a = some o → s'.heap.get? a = some o
  gens : s'.gens = s.gens
  os : s'.os = s.os
theorem Role.cases_mut (r : Role) : r.mut ∨ r = .oth ∨ ∃ o, r = .frz o := by
  cases r <;> simp [Role.mut]
theorem Ext.unmut {own : Addr → Prop} {W W' : Wd} {s s' : Shared} (x : Ext own W s W' s') {a : Addr} {o : Obj} (ha : s.heap.get? a = some o) (hm : ¬ W.Mut a) : ¬ W'.Mut a := by
  rcases Role.cases_mut (W.role a) with h | h | ⟨o, h⟩
  · exact absurd h hm
  · unfold Wd.Mut; rw [x.oth a _ ha h]; simp [Role.mut]
  · unfold Wd.Mut; rw [x.le.frz a o h]; simp [Role.mut]
theorem Ext.refl (own : Addr → Prop) (W : Wd) (s : Shared) : Ext own W s W s :=
  ⟨Le.refl W, fun _ o h => ⟨o, h⟩, fun _ _ _ h => h, fun _ _ _ _ h => h, rfl, rfl⟩
theorem Ext.trans {own : Addr → Prop} {W W' W'' : Wd} {s s' s'' : Shared} (x : Ext own W s W' s') (y : Ext own W' s' W'' s'') : Ext own W s W'' s'' where
  le := x.le.trans y.le
  alive := fun a o h => let ⟨o1, h1⟩ := x.alive a o h; y.alive a o1 h1
  oth := fun a o h e => let ⟨o1, h1⟩ := x.alive a o h; y.oth a o1 h1 (x.oth a o h e)
  kept := fun a o hm ho e => y.kept a o (x.unmut e hm) ho (x.kept a o hm ho e)
  gens := y.gens.trans x.gens
  os := y.os.trans x.os
theorem Ext.weaken {own own' : Addr → Prop} {W W' : Wd} {s s' : Shared} (x : Ext own W s W' s') (h : ∀ a, own a → own' a) : Ext own' W s W' s' :=
  ⟨x.le, x.alive, x.oth, fun a o hm ho e => x.kept a o hm (fun q => ho (h a q)) e, x.gens, x.os⟩
theorem Ext.toks {own : Addr → Prop} {W W' : Wd} {s s' : Shared} (x : Ext own W s W' s') (tk : Nat) : Ext own W s W' { s' with toks := tk } :=
  ⟨x.le, x.alive, x.oth, x.kept, x.gens, x.os⟩
theorem Heap.IsCell.at' {h h' : Heap} {a : Addr} {v : Option Value} (x : h.IsCell a v) (k : ∀ o, h.get? a = some o → h'.get? a = some o) : h'.IsCell a v :=
  let ⟨o, ho, hd⟩ := x; ⟨o, k o ho, hd⟩
theorem Heap.Ns.at' {h h' : Heap} {a : Addr} {m : Str → Option Value} (x : h.Ns a m) (k : ∀ o, h.get? a = some o → h'.get? a = some o) : h'.Ns a m :=
  let ⟨o, es, ep, ho, r⟩ := x; ⟨o, es, ep, k o ho, r⟩
theorem FrV.ext {c : Cx} {p : Pl} {W W' : Wd} {loc : List AV} {s s' : Shared} {own : Addr → Prop} (F : FrV c p W loc s.heap) (x : Ext own W s W' s')
    (hL : ¬ own p.env.locals) (hC : ∀ y a, p.env.cells.lookup y = some a → ¬ own a) : FrV c p W' loc s'.heap := by
  have kL : ∀ o, s.heap.get? p.env.locals = some o → s'.heap.get? p.env.locals = some o := fun o e => x.kept _ o (by unfold Wd.Mut; rw [F.roleL]; simp [Role.mut]) hL e
  have kC : ∀ y a, p.env.cells.lookup y = some a → ∀ o, s.heap.get? a = some o → s'.heap.get? a = some o := fun y a hm o e => x.kept _ o (by unfold Wd.Mut; rw [(F.roleC y a hm).1]; simp [Role.mut]) (hC y a hm) e
  obtain ⟨ml, hns, hml⟩ := F.ns
  refine ⟨⟨ml, Heap.Ns.at' hns kL, fun i y v h1 h2 h3 h4 => ?_⟩, fun i y v h1 h2 h3 h4 => ?_, fun y a e => ?_, F.hasCell, F.kinds, F.apart, F.wcIn, (let ⟨_, _, _, ho, _⟩ := hns; x.oth _ _ ho F.roleL), fun y a hm => ?_, F.lo, F.scope, F.kind, F.globals, F.builtins, F.nodup⟩
  · obtain ⟨val, e, r⟩ := hml i y v h1 h2 h3 h4; exact ⟨val, e, r.mono x.le⟩
  · obtain ⟨val, a, e, q, r⟩ := F.cl i y v h1 h2 h3 h4; exact ⟨val, a, e, Heap.IsCell.at' q (kC y a e), r.mono x.le⟩
  · obtain ⟨v, q⟩ := F.cells y a e; exact ⟨v, Heap.IsCell.at' q (kC y a e)⟩
  · obtain ⟨r1, r2, r3⟩ := F.roleC y a hm
    obtain ⟨v, q⟩ := F.cells y a hm
    exact ⟨(let ⟨_, ho, _⟩ := q; x.oth a _ ho r1), r2, r3⟩
noncomputable def Ok (c : Cx) (p : Pl) {α β : Type} (W0 : Wd) (t : Sem α) (R : Wd → α → β → Prop) (f : AS → Option (β × AS)) : Prop :=
  ∀ (W : Wd) (st : AS) (s : Shared), Le W0 W → Inv c p W st s → ∀ (b : β) (st' : AS), f st = some (b, st') →
    ∀ (Q : α → Shared → Prop) (E : Value → Shared → Prop), (∀ W' a s', Ext p.Own W s W' s' → Inv c p W' st' s' → R W' a b → Q a s') → wpAny (model c.prog c.w) p.A t Q E s
noncomputable def bd {α β : Type} (f : AS → Option (α × AS)) (g : α → AS → Option (β × AS)) : AS → Option (β × AS) := fun st =>
  match f st with
  | some (a, st') => g a st'
  | .none => .none
noncomputable def pu {α : Type} (a : α) : AS → Option (α × AS) := fun st => some (a, st)
noncomputable def no {α : Type} : AS → Option (α × AS) := fun _ => .none
theorem bd_some {α β : Type} {f : AS → Option (α × AS)} {g : α → AS → Option (β × AS)} {st st' : AS} {b : β} (h : bd f g st = some (b, st')) : ∃ a st1, f st = some (a, st1) ∧ g a st1 = some (b, st') := by
  unfold bd at h
  split at h
  · exact ⟨_, _, by assumption, h⟩
  · cases h
theorem Ok.of {c : Cx} {p : Pl} {α β : Type} {W0 : Wd} {t t' : Sem α} {R : Wd → α → β → Prop} {f : AS → Option (β × AS)} (h : Ok c p W0 t' R f)
    (k : ∀ (s : Shared) (Q : α → Shared → Prop) (E : Value → Shared → Prop), wpAny (model c.prog c.w) p.A t' Q E s → wpAny (model c.prog c.w) p.A t Q E s) : Ok c p W0 t R f :=
  fun W st s hle I b st' e Q E hQ => k s Q E (h W st s hle I b st' e Q E hQ)
theorem Inv.toks {c : Cx} {p : Pl} {W : Wd} {st : AS} {s : Shared} (I : Inv c p W st s) (tk : Nat) : Inv c p W st { s with toks := tk } := ⟨I.hr, I.fr⟩
noncomputable def Room (n : Nat) (A : Around) : Prop := A.handled = .none ∧ A.depth + 2 * n ≤ 900 ∧ A.units + 100 * n + 100 ≤ 9000
theorem Room.units {n : Nat} {A : Around} (h : Room n A) : A.units + 64 < cLine := by have := h.2.2; unfold cLine; omega
theorem Room.depth {n : Nat} {A : Around} (h : Room n A) : A.depth < recursionLimit := by have := h.2.1; unfold recursionLimit; omega
theorem Room.deeper {n : Nat} {A : Around} (h : Room (n + 1) A) (env : Env) : Room n (A.deeper env) :=
  ⟨h.1, by have := h.2.1; show A.depth + 1 + 2 * n ≤ 900; omega, by have := h.2.2; show A.units + 3 + 100 * n + 100 ≤ 9000; omega⟩
noncomputable def ImplE (c : Cx) (n : Nat) (sx : Sx) (e : Expr) (f : AS → Option (AV × AS)) : Prop := ∀ p : Pl, p.sx = sx → Room n p.A → ∀ W0, Ok c p W0 (eval e p.env) VR f
end Mine

namespace Mine


theorem HR.grow {c : Cx} {W : Wd} {st : AS} {h h' : Heap} (H : HR c W st h) (k : ∀ b o, ((∃ o', c.h0.get? b = some o') ∨ W.role b ≠ .oth) → h.get? b = some o → h'.get? b = some o) : HR c W st h' where
  keep := fun a o e => k a o (.inl ⟨o, e⟩) (H.keep a o e)
  mutA := H.mutA
  lt := fun a => by
    rcases Classical.em (W.role a = .oth) with q | q
    · exact .inl q
    · exact (H.lt a).imp id fun ⟨o, h⟩ => ⟨o, k a o (.inr q) h⟩
  frz := fun a o e => k a o (.inr (by rw [e]; intro q; cases q)) (H.frz a o e)
  ni := H.ni
  nl := H.nl
  iaR := H.iaR
  insA := fun q i e => by
    obtain ⟨es, n, e1, e2, r⟩ := H.insA q i e
    have hq : q < W.ni := by rw [H.ni]; exact (List.getElem?_eq_some_iff.mp e).1
    obtain ⟨r1, r2⟩ := H.iaR q hq
    exact ⟨es, n, k _ _ (.inr (by rw [r1]; intro q; cases q)) e1, k _ _ (.inr (by rw [r2]; intro q; cases q)) e2, r⟩
  lstA := fun g hg p hp => by
    obtain ⟨h1, h2, vs, n, h3, h4⟩ := H.lstA g hg p hp
    exact ⟨h1, h2, vs, n, k _ _ (.inr (by rw [h2]; intro q; cases q)) h3, h4⟩
  nodup := H.nodup
theorem FrV.grow {c : Cx} {p : Pl} {W : Wd} {loc : List AV} {h h' : Heap} (F : FrV c p W loc h) (k : ∀ b o, (b = p.env.locals ∨ ∃ x, p.env.cells.lookup x = some b) → h.get? b = some o → h'.get? b = some o) : FrV c p W loc h' := by
  obtain ⟨ml, hns, hml⟩ := F.ns
  refine ⟨⟨ml, Heap.Ns.at' hns fun o e => k _ _ (.inl rfl) e, hml⟩, fun i y v h1 h2 h3 h4 => ?_, fun y a e => ?_, F.hasCell, F.kinds, F.apart, F.wcIn, F.roleL, F.roleC, F.lo, F.scope, F.kind, F.globals, F.builtins, F.nodup⟩
  · obtain ⟨val, a, e, q, r⟩ := F.cl i y v h1 h2 h3 h4
    exact ⟨val, a, e, Heap.IsCell.at' q fun o e' => k _ _ (.inr ⟨y, e⟩) e', r⟩
  · obtain ⟨v, q⟩ := F.cells y a e
    exact ⟨v, Heap.IsCell.at' q fun o e' => k _ _ (.inr ⟨y, e⟩) e'⟩
theorem FrV.localsLt {c : Cx} {p : Pl} {W : Wd} {loc : List AV} {h : Heap} (F : FrV c p W loc h) : p.env.locals < h.objs.size := let ⟨_, e, _⟩ := F.ns; e.lt
theorem FrV.cellLt {c : Cx} {p : Pl} {W : Wd} {loc : List AV} {h : Heap} (F : FrV c p W loc h) {x : Str} {a : Addr} (hm : p.env.cells.lookup x = some a) : a < h.objs.size := let ⟨_, q⟩ := F.cells x a hm; q.lt
theorem FrV.ownOth {c : Cx} {p : Pl} {W : Wd} {loc : List AV} {h : Heap} (F : FrV c p W loc h) {a : Addr} (hm : p.Own a) : W.role a = .oth := by
  rcases hm with rfl | hm
  · exact F.roleL
  · obtain ⟨x, hx⟩ := F.wcIn a hm; exact (F.roleC x a hx).1
theorem FrV.mono {c : Cx} {p : Pl} {W W' : Wd} {loc : List AV} {h : Heap} (F : FrV c p W loc h) (L : Le W W') (hL : W'.role p.env.locals = .oth) (hC : ∀ x a, p.env.cells.lookup x = some a → W'.role a = .oth) : FrV c p W' loc h := by
  obtain ⟨ml, hns, hml⟩ := F.ns
  refine ⟨⟨ml, hns, fun i y v h1 h2 h3 h4 => ?_⟩, fun i y v h1 h2 h3 h4 => ?_, F.cells, F.hasCell, F.kinds, F.apart, F.wcIn, hL, fun x a hm => ⟨hC x a hm, (F.roleC x a hm).2⟩, F.lo, F.scope, F.kind, F.globals, F.builtins, F.nodup⟩
  · obtain ⟨val, e, r⟩ := hml i y v h1 h2 h3 h4; exact ⟨val, e, r.mono L⟩
  · obtain ⟨val, a, e, q, r⟩ := F.cl i y v h1 h2 h3 h4; exact ⟨val, a, e, q, r.mono L⟩
theorem Inv.poke {c : Cx} {p : Pl} {W : Wd} {st : AS} {s s' : Shared} {a : Addr} (I : Inv c p W st s) (x : Heap.ExtBut a s.heap s'.heap)
    (hr : W.role a = .oth) (hlo : c.h0.get? a = .none) (hL : a ≠ p.env.locals) (hC : ∀ y, p.env.cells.lookup y ≠ some a) : Inv c p W st s' := by
  refine ⟨I.hr.grow (fun b o hb e => x b o (fun q => ?_) e), I.fr.grow fun b o hb e => x b o (fun q => ?_) e⟩
  · subst q
    rcases hb with ⟨o', hb⟩ | hb
    · rw [hlo] at hb; cases hb
    · exact hb hr
  · subst q
    rcases hb with hb | ⟨y, hb⟩
    · exact hL hb
    · exact hC y hb
theorem Inv.keeps {c : Cx} {p : Pl} {W : Wd} {st : AS} {s s' : Shared} (I : Inv c p W st s) (x : ∀ b o, s.heap.get? b = some o → s'.heap.get? b = some o) : Inv c p W st s' :=
  ⟨I.hr.grow (fun b o _ e => x b o e), I.fr.grow fun b o _ e => x b o e⟩
theorem Ext.keeps (own : Addr → Prop) (W : Wd) {s s' : Shared} (x : ∀ b o, s.heap.get? b = some o → s'.heap.get? b = some o) (hg : s'.gens = s.gens) (ho : s'.os = s.os) : Ext own W s W s' :=
  ⟨Le.refl W, fun a o e => ⟨o, x a o e⟩, fun _ _ _ h => h, fun a o _ _ e => x a o e, hg, ho⟩
theorem Ext.poke {own : Addr → Prop} {W W' : Wd} {s s' s'' : Shared} {a : Addr} (x : Ext own W s W' s') (k : Heap.ExtBut a s'.heap s''.heap) (ha : s.heap.get? a = .none)
    (hg : s''.gens = s'.gens) (ho : s''.os = s'.os) : Ext own W s W' s'' :=
  have ne : ∀ b o, s.heap.get? b = some o → b ≠ a := fun b o e q => by rw [q, ha] at e; cases e
  ⟨x.le, fun b o e => let ⟨o1, e1⟩ := x.alive b o e; ⟨o1, k b o1 (ne b o e) e1⟩, x.oth, fun b o hm hb e => k b o (ne b o e) (x.kept b o hm hb e), hg.trans x.gens, ho.trans x.os⟩
noncomputable def Wd.set (W : Wd) (a : Addr) (r : Role) : Wd := { W with role := fun b => if b = a then r else W.role b }
theorem Wd.set_role (W : Wd) (a b : Addr) (r : Role) : (W.set a r).role b = if b = a then r else W.role b := rfl
theorem Wd.set_other {W : Wd} {a b : Addr} {r : Role} (h : b ≠ a) : (W.set a r).role b = W.role b := if_neg h
theorem Wd.set_self {W : Wd} {a : Addr} {r : Role} : (W.set a r).role a = r := if_pos rfl
theorem Le.set {W : Wd} {a : Addr} {r : Role} (h : W.role a = .oth) : Le W (W.set a r) :=
  ⟨Nat.le_refl _, Nat.le_refl _, fun _ _ => rfl, fun _ _ => rfl, fun _ _ => rfl, fun b o e => by
    rw [Wd.set_other]; exact e
    intro q; rw [q, h] at e; cases e⟩
theorem get_none_of_ge {h : Heap} {a : Addr} (ha : h.objs.size ≤ a) : h.get? a = .none := by
  cases e : h.get? a with
  | none => rfl
  | some o => exact absurd (Heap.lt_size e) (Nat.not_lt.mpr ha)
theorem HR.oth_of_none {c : Cx} {W : Wd} {st : AS} {h : Heap} (H : HR c W st h) {a : Addr} (ha : h.get? a = .none) : W.role a = .oth :=
  (H.lt a).elim id fun ⟨o, q⟩ => by rw [ha] at q; cases q
theorem HR.oth_of_ge {c : Cx} {W : Wd} {st : AS} {h : Heap} (H : HR c W st h) {a : Addr} (ha : h.objs.size ≤ a) : W.role a = .oth := H.oth_of_none (get_none_of_ge ha)
theorem HR.base_none {c : Cx} {W : Wd} {st : AS} {h : Heap} (H : HR c W st h) {a : Addr} (ha : h.get? a = .none) : c.h0.get? a = .none := by
  cases e : c.h0.get? a with
  | none => rfl
  | some o => rw [H.keep a o e] at ha; cases ha
theorem HR.newFrz {c : Cx} {W : Wd} {st : AS} {h : Heap} {a : Addr} {o : Obj} (H : HR c W st h) (hr : W.role a = .oth) (ho : h.get? a = some o) : HR c (W.set a (.frz o)) st h := by
  have L : Le W (W.set a (.frz o)) := Le.set hr
  have ne : ∀ b, W.role b ≠ .oth → (W.set a (.frz o)).role b = W.role b := fun b hb => Wd.set_other fun q => hb (q ▸ hr)
  refine ⟨H.keep, fun b hb => ?_, fun b => ?_, fun b o' e => ?_, H.ni, H.nl, fun k hk => ?_, fun k i e => ?_, fun g hg p hp => ?_, H.nodup⟩
  · refine H.mutA b ?_
    unfold Wd.Mut at hb ⊢
    rw [Wd.set_role] at hb
    split at hb
    · exact hb.elim
    · exact hb
  · rw [Wd.set_role]
    split
    · rename_i q; subst q; exact .inr ⟨o, ho⟩
    · exact H.lt b
  · rw [Wd.set_role] at e
    split at e
    · rename_i q; subst q; cases e; exact ho
    · exact H.frz b o' e
  · obtain ⟨r1, r2⟩ := H.iaR k hk
    exact ⟨(ne (W.ia k) (by rw [r1]; intro q; cases q)).trans r1, (ne (W.da k) (by rw [r2]; intro q; cases q)).trans r2⟩
  · obtain ⟨es, n, e1, e2, r⟩ := H.insA k i e
    exact ⟨es, n, e1, e2, r.mono L⟩
  · obtain ⟨h1, h2, vs, n, h3, h4⟩ := H.lstA g hg p hp
    exact ⟨h1, (ne (W.la p.1) (by rw [h2]; intro q; cases q)).trans h2, vs, n, h3, h4.mono L⟩
theorem Inv.newFrz {c : Cx} {p : Pl} {W : Wd} {st : AS} {s : Shared} {a : Addr} {o : Obj} (I : Inv c p W st s) (hr : W.role a = .oth) (ho : s.heap.get? a = some o) (hL : a ≠ p.env.locals) (hC : ∀ y, p.env.cells.lookup y ≠ some a) :
    Inv c p (W.set a (.frz o)) st s :=
  ⟨I.hr.newFrz hr ho, I.fr.mono (Le.set hr) ((Wd.set_other (Ne.symm hL)).trans I.fr.roleL) fun y b hm => (Wd.set_other (show b ≠ a from fun q => hC y (q ▸ hm))).trans (I.fr.roleC y b hm).1⟩
theorem Inv.pushFrz {c : Cx} {p : Pl} {W : Wd} {st : AS} {s : Shared} (I : Inv c p W st s) (o : Obj) (tk : Nat) (hf : o.isFreed = false := by rfl) :
    Inv c p (W.set s.heap.objs.size (.frz o)) st { s with heap := s.heap.push o, toks := tk } ∧ Ext p.Own W s (W.set s.heap.objs.size (.frz o)) { s with heap := s.heap.push o, toks := tk } := by
  have hr := I.hr.oth_of_ge (Nat.le_refl s.heap.objs.size)
  have I' : Inv c p W st { s with heap := s.heap.push o, toks := tk } := I.keeps (fun _ _ e => Heap.get?_push_of_some _ e)
  refine ⟨I'.newFrz hr (Heap.get?_push_size _ hf) (Nat.ne_of_gt I.fr.localsLt) (fun y hm => Nat.lt_irrefl _ (I.fr.cellLt hm)), Le.set hr, fun a o' e => ⟨o', Heap.get?_push_of_some _ e⟩, fun a o' ha e => ?_, fun a o' _ _ e => Heap.get?_push_of_some _ e, rfl, rfl⟩
  rw [Wd.set_other (Nat.ne_of_lt (Heap.lt_size ha))]; exact e
theorem Ok.newList {c : Cx} {p : Pl} {W0 : Wd} {vs : List Value} {xs : List AV} (h : VRs W0 vs xs) : Ok c p W0 (newList vs) VR (fun st => if xs.length ≤ 100000 then some (.lst xs, st) else .none) := by
  intro W st s hle I b st' e Q E hQ
  split at e
  · rename_i hsz
    cases e
    have hl := h.length
    refine wpAny_newObj_type ?_ (by show vs.toArray.size ≤ sizeLine; rw [List.size_toArray, sizeLine_eq]; omega)
    obtain ⟨I', x⟩ := I.pushFrz (listOf vs.toArray 0) s.toks
    exact hQ _ _ _ x I' (.lst (n := 0) Wd.set_self ((h.mono hle).mono x.le))
  · cases e
theorem Ok.newTuple {c : Cx} {p : Pl} {W0 : Wd} {vs : List Value} {xs : List AV} (h : VRs W0 vs xs) : Ok c p W0 (newTuple vs) VR (fun st => if xs.length ≤ 100000 then some (.tup xs, st) else .none) := by
  intro W st s hle I b st' e Q E hQ
  split at e
  · rename_i hsz
    cases e
    have hl := h.length
    refine wpAny_newObj_type ?_ (by show vs.toArray.size ≤ sizeLine; rw [List.size_toArray, sizeLine_eq]; omega)
    obtain ⟨I', x⟩ := I.pushFrz (tupOf vs.toArray 0) s.toks
    exact hQ _ _ _ x I' (.tup (n := 0) Wd.set_self rfl rfl ((h.mono hle).mono x.le))
  · cases e
end Mine

namespace Mine

abbrev Cm (α : Type) := AS → Option (α × AS)
structure Gd (c : Cx) : Prop where
  inK : c.K.In c.h0
  g : c.h0.Ns mainGlobals c.mg
  b : c.h0.Ns builtinsNs c.mb
  nolimit : c.h0.NoLimit
noncomputable def Cx.Glob (c : Cx) (x : Str) (v : Value) : Prop := c.mg x = some v ∨ (c.mg x = .none ∧ c.mb x = some v)
section
variable {c : Cx} {n : Nat} {sx : Sx}

noncomputable def var (i : Nat) : Cm AV := fun st =>
  match st.loc[i]? with
  | some .unb => .none
  | some v => some (v, st)
  | .none => .none
theorem var_some {i : Nat} {st st' : AS} {v : AV} (h : var i st = some (v, st')) : st.loc[i]? = some v ∧ v ≠ .unb ∧ st' = st := by
  unfold var at h
  split at h
  · cases h
  · rename_i w q hw; cases h; exact ⟨hw, q, rfl⟩
  · cases h
theorem var_get {i : Nat} {st : AS} {v : AV} (h : st.loc[i]? = some v) (hv : v ≠ .unb) : var i st = some (v, st) := by
  unfold var
  split
  · rename_i q; rw [h] at q; cases q; exact absurd rfl hv
  · rename_i q; rw [h] at q; cases q; rfl
  · rename_i q; rw [h] at q; cases q
theorem ImplE.name {x : Str} {pos : Pos} {i : Nat} (hi : sx.vars[i]? = some x) (hd : (x == ("__debug__" : Str)) = false) : ImplE c n sx (.Name x pos) (var i) := by
  intro p hp _ W0 W st s hle I v st' e Q E hQ
  subst hp
  obtain ⟨e1, e2, rfl⟩ := var_some e
  have hk : p.env.scope.kind = .function := by rw [I.fr.scope]; exact I.fr.kind
  refine wpAny_Name ?_ hd
  rcases I.fr.kinds x (List.mem_of_getElem? hi) with hl | hl
  · obtain ⟨ml, hns, hml⟩ := I.fr.ns
    obtain ⟨val, hv, r⟩ := hml i x v hi e1 e2 hl
    exact wpAny_loadName_local hk hl hns hv (hQ W val s (Ext.refl ..) I r)
  · obtain ⟨val, a, hc, hcell, r⟩ := I.fr.cl i x v hi e1 e2 hl
    exact wpAny_loadName_cell hk hl hc hcell (hQ W val s (Ext.refl ..) I r)
theorem load_glob (G : Gd c) {p : Pl} {W : Wd} {st : AS} {s : Shared} (I : Inv c p W st s) {x : Str} {pos : Pos} {v : Value} (hx : p.sx.sc.names.lookup x = some .globalImplicit) (hg : c.Glob x v) (hd : (x == ("__debug__" : Str)) = false)
    {Q : Value → Shared → Prop} {E : Value → Shared → Prop} (h : Q v s) : wpAny (model c.prog c.w) p.A (eval (.Name x pos) p.env) Q E s := by
  have hk : p.env.scope.kind = .function := by rw [I.fr.scope]; exact I.fr.kind
  have hx' : p.env.kindOf x = some .globalImplicit := by unfold Env.kindOf; rw [I.fr.scope]; exact hx
  have g1 : s.heap.Ns p.env.globals c.mg := by rw [I.fr.globals]; exact G.g.keeps I.hr.keep
  have g2 : s.heap.Ns p.env.builtins c.mb := by rw [I.fr.builtins]; exact G.b.keeps I.hr.keep
  refine Calls.Name_function_global hk hx' ?_ hd
  rcases hg with hg | ⟨hg, hb⟩
  · exact Calls.loadGlobal_global g1 hg h
  · exact Calls.loadGlobal_builtin g1 hg g2 hb h
theorem ImplE.cnone {k : Nat} {pos : Pos} : ImplE c n sx (.Constant .none k pos) (pu .none) := by
  intro p _ _ W0 W st s hle I b st' e Q E hQ; cases e
  exact wpAny_Constant_none (hQ W _ s (Ext.refl ..) I .none)
theorem ImplE.cbool {b : Bool} {k : Nat} {pos : Pos} : ImplE c n sx (.Constant (.bool b) k pos) (pu (.bool b)) := by
  intro p _ _ W0 W st s hle I b st' e Q E hQ; cases e
  exact wpAny_Constant_bool (hQ W _ s (Ext.refl ..) I (.bool _))
theorem ImplE.cint {i : Int} {k : Nat} {pos : Pos} : ImplE c n sx (.Constant (.int i) k pos) (pu (.int i)) := by
  intro p _ _ W0 W st s hle I b st' e Q E hQ; cases e
  exact wpAny_Constant_int (hQ W _ _ ((Ext.refl ..).toks _) (I.toks _) (.int _ _))
theorem ImplE.cstr {x : Str} {k : Nat} {pos : Pos} : ImplE c n sx (.Constant (.str x) k pos) (pu (.str x)) := by
  intro p _ _ W0 W st s hle I b st' e Q E hQ; cases e
  exact wpAny_Constant_str (hQ W _ _ ((Ext.refl ..).toks _) (I.toks _) (.str _ _))
noncomputable def ImplEs (c : Cx) (n : Nat) (sx : Sx) (es : List Expr) (f : Cm (List AV)) : Prop := ∀ p : Pl, p.sx = sx → Room n p.A → ∀ W0 pos, Ok c p W0 (spliced (backTo pos (starEach es p.env))) VRs f
noncomputable def plainX : Expr → Bool
  | .Starred .. => false
  | _ => true
theorem star_plain {e : Expr} {rest : List Expr} {env : Env} (h : plainX e = true) : starEach (e :: rest) env = (false, eval e env) :: starEach rest env := by
  cases e <;> first | rfl | cases h
theorem ImplEs.nil : ImplEs c n sx [] (pu []) := by
  intro p _ _ W0 pos W st s hle I b st' e Q E hQ; cases e
  exact wpAny_items_nil (hQ W _ s (Ext.refl ..) I .nil)
noncomputable def consM (f : Cm AV) (g : Cm (List AV)) : Cm (List AV) := bd f fun x => bd g fun xs => pu (x :: xs)
theorem ImplEs.cons {e : Expr} {es : List Expr} {f : Cm AV} {g : Cm (List AV)} (h1 : ImplE c n sx e f) (h2 : ImplEs c n sx es g) (hp : plainX e = true := by rfl) : ImplEs c n sx (e :: es) (consM f g) := by
  intro p hsx hr W0 pos W st s hle I b st' e Q E hQ
  obtain ⟨x, st1, e1, e2⟩ := bd_some e
  obtain ⟨xs, st2, e3, e4⟩ := bd_some e2
  cases e4
  refine wpAny_items_cons (h1 p hsx hr W W st s (Le.refl _) I x st1 e1 _ E fun W1 v s1 x1 I1 r1 => ?_) (star_plain hp)
  refine h2 p hsx hr W1 pos W1 st1 s1 (Le.refl _) I1 xs st' e3 _ E fun W2 vs s2 x2 I2 r2 => ?_
  exact hQ W2 _ s2 (x1.trans x2) I2 (.cons (r1.mono x2.le) r2)
noncomputable def lstM (xs : List AV) : Cm AV := fun st => if xs.length ≤ 100000 then some (.lst xs, st) else .none
noncomputable def tupM (xs : List AV) : Cm AV := fun st => if xs.length ≤ 100000 then some (.tup xs, st) else .none
theorem ImplE.list {es : List Expr} {pos : Pos} {f : Cm (List AV)} (h : ImplEs c n sx es f) : ImplE c n sx (.List es pos) (bd f lstM) := by
  intro p hsx hr W0 W st s hle I b st' e Q E hQ
  obtain ⟨xs, st1, e1, e2⟩ := bd_some e
  refine List_ (h p hsx hr W pos W st s (Le.refl _) I xs st1 e1 _ E fun W1 vs s1 x1 I1 r1 => ?_)
  exact Ok.newList r1 W1 st1 s1 (Le.refl _) I1 b st' e2 Q E fun W2 v s2 x2 I2 r2 => hQ W2 v s2 (x1.trans x2) I2 r2
theorem ImplE.tuple {es : List Expr} {k : Nat} {pos : Pos} {f : Cm (List AV)} (h : ImplEs c n sx es f) : ImplE c n sx (.Tuple es k pos) (bd f tupM) := by
  intro p hsx hr W0 W st s hle I b st' e Q E hQ
  obtain ⟨xs, st1, e1, e2⟩ := bd_some e
  refine Tuple_ (h p hsx hr W pos W st s (Le.refl _) I xs st1 e1 _ E fun W1 vs s1 x1 I1 r1 => ?_)
  exact Ok.newTuple r1 W1 st1 s1 (Le.refl _) I1 b st' e2 Q E fun W2 v s2 x2 I2 r2 => hQ W2 v s2 (x1.trans x2) I2 r2
noncomputable def OkBin (c : Cx) (n : Nat) (op : Operator) (g : AV → AV → Cm AV) : Prop := ∀ p : Pl, Room n p.A → ∀ W0 a b x y, VR W0 a x → VR W0 b y → Ok c p W0 (binaryOp op a b) VR (g x y)
noncomputable def OkCmp (c : Cx) (n : Nat) (op : CmpOp) (g : AV → AV → Cm Bool) : Prop := ∀ p : Pl, Room n p.A → ∀ W0 a b x y, VR W0 a x → VR W0 b y → Ok c p W0 (compareOp op a b) (fun _ v b => v = .bool b) (g x y)
noncomputable def bin2 (f g : Cm AV) (h : AV → AV → Cm AV) : Cm AV := bd f fun x => bd g fun y => h x y
noncomputable def cmp2 (f g : Cm AV) (h : AV → AV → Cm Bool) : Cm Bool := bd f fun x => bd g fun y => h x y
theorem ImplE.bin {l r : Expr} {op : Operator} {pos : Pos} {f g : Cm AV} {h : AV → AV → Cm AV} (h1 : ImplE c n sx l f) (h2 : ImplE c n sx r g) (h3 : OkBin c n op h) : ImplE c n sx (.BinOp l op r pos) (bin2 f g h) := by
  intro p hsx hr W0 W st s hle I b st' e Q E hQ
  obtain ⟨x, st1, e1, e2⟩ := bd_some e
  obtain ⟨y, st2, e3, e4⟩ := bd_some e2
  refine wpAny_BinOp (h1 p hsx hr W W st s (Le.refl _) I x st1 e1 _ E fun W1 a s1 x1 I1 r1 => ?_)
  refine h2 p hsx hr W1 W1 st1 s1 (Le.refl _) I1 y st2 e3 _ E fun W2 vb s2 x2 I2 r2 => ?_
  exact h3 p hr W2 a vb x y (r1.mono x2.le) r2 W2 st2 s2 (Le.refl _) I2 b st' e4 Q E fun W3 v s3 x3 I3 r3 => hQ W3 v s3 ((x1.trans x2).trans x3) I3 r3
noncomputable def boolV (f : Cm Bool) : Cm AV := bd f fun b => pu (.bool b)
theorem ImplE.cmp {l r : Expr} {op : CmpOp} {pos : Pos} {f g : Cm AV} {h : AV → AV → Cm Bool} (h1 : ImplE c n sx l f) (h2 : ImplE c n sx r g) (h3 : OkCmp c n op h) (hm : behindInMarks op r = false := by rfl) :
    ImplE c n sx (.Compare l [op] [r] pos) (boolV (cmp2 f g h)) := by
  intro p hsx hr W0 W st s hle I b st' e Q E hQ
  obtain ⟨bb, st0, e0, e00⟩ := bd_some e
  cases e00
  obtain ⟨x, st1, e1, e2⟩ := bd_some e0
  obtain ⟨y, st2, e3, e4⟩ := bd_some e2
  refine wpAny_Compare1 (h1 p hsx hr W W st s (Le.refl _) I x st1 e1 _ E fun W1 a s1 x1 I1 r1 => ?_) hm
  refine h2 p hsx hr W1 W1 st1 s1 (Le.refl _) I1 y st2 e3 _ E fun W2 vb s2 x2 I2 r2 => ?_
  exact h3 p hr W2 a vb x y (r1.mono x2.le) r2 W2 st2 s2 (Le.refl _) I2 bb st' e4 Q E fun W3 v s3 x3 I3 r3 => hQ W3 v s3 ((x1.trans x2).trans x3) I3 (r3 ▸ .bool bb)
noncomputable def ImplT (c : Cx) (n : Nat) (sx : Sx) (e : Expr) (f : Cm Bool) : Prop := ∀ p : Pl, p.sx = sx → Room n p.A → ∀ W0, Ok c p W0 (isTrue e p.env (eval e p.env)) (fun _ a b => a = b) f
theorem ImplT.cmp {l r : Expr} {op : CmpOp} {pos : Pos} {f g : Cm AV} {h : AV → AV → Cm Bool} (h1 : ImplE c n sx l f) (h2 : ImplE c n sx r g) (h3 : OkCmp c n op h) (hm : behindInMarks op r = false := by rfl) :
    ImplT c n sx (.Compare l [op] [r] pos) (cmp2 f g h) := by
  intro p hsx hr W0 W st s hle I b st' e Q E hQ
  obtain ⟨x, st1, e1, e2⟩ := bd_some e
  obtain ⟨y, st2, e3, e4⟩ := bd_some e2
  refine wpAny_isTrue_Compare1 (h1 p hsx hr W W st s (Le.refl _) I x st1 e1 _ E fun W1 a s1 x1 I1 r1 => ?_) hm
  refine h2 p hsx hr W1 W1 st1 s1 (Le.refl _) I1 y st2 e3 _ E fun W2 vb s2 x2 I2 r2 => ?_
  refine h3 p hr W2 a vb x y (r1.mono x2.le) r2 W2 st2 s2 (Le.refl _) I2 b st' e4 _ E fun W3 v s3 x3 I3 r3 => ?_
  subst r3
  exact wpAny_truthy_bool (hQ W3 b s3 ((x1.trans x2).trans x3) I3 rfl)
noncomputable def ImplTs (c : Cx) (n : Nat) (sx : Sx) (op : BoolOp) (es : List Expr) (f : Cm Bool) : Prop := ∀ p : Pl, p.sx = sx → Room n p.A → ∀ W0, Ok c p W0 (allTrue op es p.env) (fun _ a b => a = b) f
noncomputable def andM (f g : Cm Bool) : Cm Bool := bd f fun b => if b then g else pu false
theorem ImplTs.andNil : ImplTs c n sx .And [] (pu true) := by
  intro p _ _ W0 W st s hle I b st' e Q E hQ; cases e
  exact wpAny_allTrue_And_nil (hQ W _ s (Ext.refl ..) I rfl)
theorem ImplTs.and {e : Expr} {es : List Expr} {f g : Cm Bool} (h1 : ImplT c n sx e f) (h2 : ImplTs c n sx .And es g) : ImplTs c n sx .And (e :: es) (andM f g) := by
  intro p hsx hr W0 W st s hle I b st' e Q E hQ
  obtain ⟨x, st1, e1, e2⟩ := bd_some e
  refine wpAny_allTrue_And_cons (h1 p hsx hr W W st s (Le.refl _) I x st1 e1 _ E fun W1 a s1 x1 I1 r1 => ?_)
  subst r1
  cases a with
  | true => exact h2 p hsx hr W1 W1 st1 s1 (Le.refl _) I1 b st' e2 Q E fun W2 v s2 x2 I2 r2 => hQ W2 v s2 (x1.trans x2) I2 r2
  | false => cases e2; exact hQ W1 _ s1 x1 I1 rfl
theorem ImplT.bool {op : BoolOp} {es : List Expr} {pos : Pos} {f : Cm Bool} (h : ImplTs c n sx op es f) : ImplT c n sx (.BoolOp op es pos) f :=
  fun p hsx hr W0 => (h p hsx hr W0).of fun _ _ _ k => wpAny_isTrue_BoolOp k
noncomputable def iteM {α : Type} (t : Cm Bool) (f g : Cm α) : Cm α := bd t fun b => if b then f else g
theorem ImplE.ifexp {t a b : Expr} {pos : Pos} {ft : Cm Bool} {fa fb : Cm AV} (h0 : ImplT c n sx t ft) (h1 : ImplE c n sx a fa) (h2 : ImplE c n sx b fb) : ImplE c n sx (.IfExp t a b pos) (iteM ft fa fb) := by
  intro p hsx hr W0 W st s hle I b st' e Q E hQ
  obtain ⟨x, st1, e1, e2⟩ := bd_some e
  refine wpAny_IfExp (h0 p hsx hr W W st s (Le.refl _) I x st1 e1 _ E fun W1 a s1 x1 I1 r1 => ?_)
  subst r1
  cases a with
  | true => exact h1 p hsx hr W1 W1 st1 s1 (Le.refl _) I1 b st' e2 Q E fun W2 v s2 x2 I2 r2 => hQ W2 v s2 (x1.trans x2) I2 r2
  | false => exact h2 p hsx hr W1 W1 st1 s1 (Le.refl _) I1 b st' e2 Q E fun W2 v s2 x2 I2 r2 => hQ W2 v s2 (x1.trans x2) I2 r2
end
end Mine

namespace Mine

section
variable {c : Cx} {n : Nat} {sx : Sx}

noncomputable def setV (i : Nat) (v : AV) : Cm Unit := fun st => some ((), { st with loc := st.loc.set i v })
theorem HR.loc {W : Wd} {st : AS} {h : Heap} (H : HR c W st h) (l : List AV) : HR c W { st with loc := l } h :=
  ⟨H.keep, H.mutA, H.lt, H.frz, H.ni, H.nl, H.iaR, H.insA, H.lstA, H.nodup⟩
theorem nodup_get : ∀ {l : List Str}, l.Nodup → ∀ {i j : Nat} {x : Str}, l[i]? = some x → l[j]? = some x → i = j
  | [], _, i, j, x, hi, _ => by simp at hi
  | y :: r, h, i, j, x, hi, hj => by
    obtain ⟨h1, h2⟩ := List.nodup_cons.mp h
    cases i with
    | zero =>
      cases j with
      | zero => rfl
      | succ j => simp at hi hj; subst hi; exact absurd (List.mem_of_getElem? hj) h1
    | succ i =>
      cases j with
      | zero => simp at hi hj; subst hj; exact absurd (List.mem_of_getElem? hi) h1
      | succ j => simp at hi hj; exact congrArg _ (nodup_get h2 hi hj)
theorem store_ok {p : Pl} {W0 : Wd} {i : Nat} {x : Str} {val : Value} {v : AV} (hi : p.sx.vars[i]? = some x) (hw : x ∈ p.sx.wr) (hv : VR W0 val v) : Ok c p W0 (storeName p.env x val) (fun _ _ _ => True) (setV i v) := by
  intro W st s hle I b st' e Q E hQ
  cases e
  have F := I.fr
  have hk : p.env.scope.kind = .function := by rw [F.scope]; exact F.kind
  have hv' := hv.mono hle
  obtain ⟨ml, hns, hml⟩ := F.ns
  rcases F.kinds x (List.mem_of_getElem? hi) with hl | hl
  · refine wpAny_storeName_local hl hns (fun h' hns' hsb => ?_) (by rw [hk]; rfl)
    have keepR : ∀ b o, b ≠ p.env.locals → s.heap.get? b = some o → h'.get? b = some o := fun b o hb e => hsb.extBut b o hb e
    refine hQ W () _ ⟨Le.refl W, fun a o e => ?_, fun _ _ _ e => e, fun a o _ hno e => keepR a o (fun q => hno (.inl q)) e, rfl, rfl⟩ ⟨?_, ?_⟩ trivial
    · rcases Classical.em (a = p.env.locals) with q | q
      · subst q; obtain ⟨o', _, _, ho', _⟩ := hns'; exact ⟨o', ho'⟩
      · exact ⟨o, keepR a o q e⟩
    · refine (I.hr.loc _).grow fun b o hb e => keepR b o (fun q => ?_) e
      subst q
      rcases hb with ⟨o', hb⟩ | hb
      · rw [F.lo] at hb; cases hb
      · exact hb F.roleL
    · refine ⟨⟨_, hns', fun j y u h1 h2 h3 h4 => ?_⟩, fun j y u h1 h2 h3 h4 => ?_, fun y a hm => ?_, F.hasCell, F.kinds, F.apart, F.wcIn, F.roleL, F.roleC, F.lo, F.scope, F.kind, F.globals, F.builtins, F.nodup⟩
      · simp only [List.getElem?_set] at h2
        by_cases hij : i = j
        · subst hij
          rw [hi] at h1; cases h1
          rw [if_pos rfl] at h2
          split at h2
          · cases h2; exact ⟨val, if_pos rfl, hv'⟩
          · cases h2
        · rw [if_neg hij] at h2
          obtain ⟨vl, e1, r⟩ := hml j y u h1 h2 h3 h4
          have : y ≠ x := fun q => hij (nodup_get F.nodup hi (q ▸ h1))
          exact ⟨vl, by simp only [this, if_false]; exact e1, r⟩
      · simp only [List.getElem?_set] at h2
        have hij : i ≠ j := fun q => by subst q; rw [hi] at h1; cases h1; rw [hl] at h4; cases h4
        rw [if_neg hij] at h2
        obtain ⟨vl, a, e1, q, r⟩ := F.cl j y u h1 h2 h3 h4
        exact ⟨vl, a, e1, q.sameBut hsb (F.roleC y a e1).2.1, r⟩
      · obtain ⟨u, q⟩ := F.cells y a hm
        exact ⟨u, q.sameBut hsb (F.roleC y a hm).2.1⟩
  · obtain ⟨a, hc, hwc⟩ := F.hasCell x (List.mem_of_getElem? hi) hl
    have hwc := hwc hw
    obtain ⟨v0, hcell⟩ := F.cells x a hc
    have hra := F.roleC x a hc
    refine wpAny_storeName_cell hk hl hc hcell fun h' hcell' hsb => ?_
    have keepR : ∀ b o, b ≠ a → s.heap.get? b = some o → h'.get? b = some o := fun b o hb e => hsb.extBut b o hb e
    refine hQ W () _ ⟨Le.refl W, fun b o e => ?_, fun _ _ _ e => e, fun b o _ hno e => keepR b o (fun q => hno (.inr (q ▸ hwc))) e, rfl, rfl⟩ ⟨?_, ?_⟩ trivial
    · rcases Classical.em (b = a) with q | q
      · subst q; obtain ⟨o', ho', _⟩ := hcell'; exact ⟨o', ho'⟩
      · exact ⟨o, keepR b o q e⟩
    · refine (I.hr.loc _).grow fun b o hb e => keepR b o (fun q => ?_) e
      subst q
      rcases hb with ⟨o', hb⟩ | hb
      · rw [hra.2.2] at hb; cases hb
      · exact hb hra.1
    · refine ⟨⟨ml, hns.sameBut hsb (Ne.symm hra.2.1), fun j y u h1 h2 h3 h4 => ?_⟩, fun j y u h1 h2 h3 h4 => ?_, fun y b hm => ?_, F.hasCell, F.kinds, F.apart, F.wcIn, F.roleL, F.roleC, F.lo, F.scope, F.kind, F.globals, F.builtins, F.nodup⟩
      · simp only [List.getElem?_set] at h2
        have hij : i ≠ j := fun q => by subst q; rw [hi] at h1; cases h1; rw [hl] at h4; cases h4
        rw [if_neg hij] at h2
        exact hml j y u h1 h2 h3 h4
      · simp only [List.getElem?_set] at h2
        by_cases hij : i = j
        · subst hij
          rw [hi] at h1; cases h1
          rw [if_pos rfl] at h2
          split at h2
          · cases h2; exact ⟨val, a, hc, hcell', hv'⟩
          · cases h2
        · rw [if_neg hij] at h2
          obtain ⟨vl, b, e1, q, r⟩ := F.cl j y u h1 h2 h3 h4
          have : y ≠ x := fun q => hij (nodup_get F.nodup hi (q ▸ h1))
          have hba : b ≠ a := fun q => this (name_of_addr F.apart (mem_of_lookup e1) (q ▸ mem_of_lookup hc))
          exact ⟨vl, b, e1, q.sameBut hsb hba, r⟩
      · rcases Classical.em (b = a) with q | q
        · subst q; exact ⟨_, hcell'⟩
        · obtain ⟨u, h⟩ := F.cells y b hm
          exact ⟨u, h.sameBut hsb q⟩
noncomputable def ImplA (c : Cx) (n : Nat) (sx : Sx) (t : Expr) (f : AV → Cm Unit) : Prop := ∀ p : Pl, p.sx = sx → Room n p.A → ∀ W0 val x, VR W0 val x → Ok c p W0 (assign t p.env val) (fun _ _ _ => True) (f x)
theorem ImplA.name {x : Str} {pos : Pos} {i : Nat} (hi : sx.vars[i]? = some x) (hw : sx.wr[i]? = some x) : ImplA c n sx (.Name x pos) (setV i) := by
  have hw := List.mem_of_getElem? hw
  intro p hsx hr W0 val v hv
  subst hsx
  exact (store_ok hi hw hv).of fun s Q E h => wpAny_assign_Name h
noncomputable def ImplAs (c : Cx) (n : Nat) (sx : Sx) (ts : List Expr) (f : List AV → Cm Unit) : Prop :=
  ∀ p : Pl, p.sx = sx → Room n p.A → (assignEach ts p.env).length = ts.length ∧ (assignEach ts p.env).findIdx? (·.1) = .none ∧
    ∀ W0 vals xs, VRs W0 vals xs → xs.length = ts.length → Ok c p W0 (assignInOrder ((assignEach ts p.env).map (·.2)) vals) (fun _ _ _ => True) (f xs)
noncomputable def nilA : List AV → Cm Unit := fun xs => match xs with | [] => pu () | _ => no
noncomputable def consA (f : AV → Cm Unit) (g : List AV → Cm Unit) : List AV → Cm Unit := fun xs => match xs with
  | x :: r => bd (f x) fun _ => g r
  | [] => no
theorem ImplAs.nil : ImplAs c n sx [] nilA := by
  intro p hsx hr
  refine ⟨rfl, rfl, fun W0 vals xs h hl W st s hle I b st' e Q E hQ => ?_⟩
  cases h with
  | nil => cases e; exact wpAny_pure (hQ W _ s (Ext.refl ..) I trivial)
  | cons => cases hl
theorem assign_plain {t : Expr} {ts : List Expr} {env : Env} (h : plainX t = true) : assignEach (t :: ts) env = (false, assign t env) :: assignEach ts env := by
  cases t <;> first | rfl | cases h
theorem ImplAs.cons {t : Expr} {ts : List Expr} {f : AV → Cm Unit} {g : List AV → Cm Unit} (h1 : ImplA c n sx t f) (h2 : ImplAs c n sx ts g) (hp : plainX t = true := by rfl) : ImplAs c n sx (t :: ts) (consA f g) := by
  intro p hsx hr
  obtain ⟨a1, a2, a3⟩ := h2 p hsx hr
  refine ⟨by rw [assign_plain hp, List.length_cons, List.length_cons, a1], by rw [assign_plain hp, List.findIdx?_cons]; simp [a2], fun W0 vals xs h hl W st s hle I b st' e Q E hQ => ?_⟩
  cases h with
  | nil => cases hl
  | cons hv hvs =>
    obtain ⟨u, st1, e1, e2⟩ := bd_some e
    rw [assign_plain hp]
    show wpAny _ _ (do holding _ (assign t p.env _); assignInOrder ((assignEach ts p.env).map (·.2)) _) Q E s
    refine wpAny_bind (wpAny_holding (h1 p hsx hr W _ _ (hv.mono hle) W st s (Le.refl _) I u st1 e1 _ E fun W1 _ s1 x1 I1 _ => ?_))
    exact a3 W1 _ _ ((hvs.mono hle).mono x1.le) (by simpa using hl) W1 st1 s1 (Le.refl _) I1 b st' e2 Q E fun W2 v s2 x2 I2 r2 => hQ W2 v s2 (x1.trans x2) I2 r2
noncomputable def unpackM (k : Nat) (g : List AV → Cm Unit) : AV → Cm Unit := fun x => match x with
  | .tup xs => if xs.length = k then g xs else no
  | _ => no
theorem HR.isTuple {W : Wd} {st : AS} {h : Heap} (H : HR c W st h) {a : Addr} {o : Obj} {vs : List Value} {k : Nat} (e : W.role a = .frz o) (e1 : o.cls = .type "tuple") (e2 : o.data = .seq vs.toArray k) : h.IsTuple a vs.toArray := ⟨o, H.frz a _ e, e1, _, e2⟩
theorem HR.isList {W : Wd} {st : AS} {h : Heap} (H : HR c W st h) {a : Addr} {vs : List Value} {k : Nat} (e : W.role a = .frz (listOf vs.toArray k)) : h.IsList a vs.toArray := ⟨_, H.frz a _ e, rfl, _, rfl⟩
theorem Inv.unext {p : Pl} {W : Wd} {st : AS} {s : Shared} (I : Inv c p W st s) {h' : Heap} (x : Heap.ExtBut s.heap.objs.size s.heap h') :
    Inv c p W st { s with heap := h' } ∧ Ext p.Own W s W { s with heap := h' } := by
  have k : ∀ b o, s.heap.get? b = some o → h'.get? b = some o := fun b o e => x b o (Nat.ne_of_lt (Heap.lt_size e)) e
  exact ⟨I.keeps (s' := { s with heap := h' }) k, Ext.keeps (s' := { s with heap := h' }) _ _ k rfl rfl⟩
theorem ImplA.tuple {ts : List Expr} {k : Nat} {pos : Pos} {g : List AV → Cm Unit} (h : ImplAs c n sx ts g) : ImplA c n sx (.Tuple ts k pos) (unpackM ts.length g) := by
  intro p hsx hr W0 val x hv W st s hle I b st' e Q E hQ
  obtain ⟨a1, a2, a3⟩ := h p hsx hr
  cases hv.mono hle with
  | tup hrole c1 c2 hvs =>
    simp only [unpackM] at e
    split at e
    · rename_i hl
      refine wpAny_assign_Tuple hr.1 (I.hr.isTuple hrole c1 c2) (by rw [a1, List.size_toArray, hvs.length, hl]) a2 fun h' hx => ?_
      obtain ⟨I', x'⟩ := I.unext hx
      exact a3 W _ _ hvs hl W st _ (Le.refl _) I' b st' e Q E fun W2 v s2 x2 I2 r2 => hQ W2 v s2 (x'.trans x2) I2 r2
    · cases e
  | _ => cases e
inductive AF where
  | next
  | ret (v : AV)
inductive FlowR (W : Wd) : Flow → AF → Prop
  | next : FlowR W .next .next
  | ret {v : Value} {x : AV} : VR W v x → FlowR W (.ret v) (.ret x)
noncomputable def ImplS1 (c : Cx) (n : Nat) (sx : Sx) (t : Stmt) (f : Cm AF) : Prop := ∀ p : Pl, p.sx = sx → Room n p.A → ∀ W0, Ok c p W0 (exec t p.env) FlowR f
noncomputable def ImplS (c : Cx) (n : Nat) (sx : Sx) (ts : List Stmt) (f : Cm AF) : Prop := ∀ p : Pl, p.sx = sx → Room n p.A → ∀ W0, Ok c p W0 (execs ts p.env) FlowR f
noncomputable def thenM (f g : Cm AF) : Cm AF := bd f fun r => match r with
  | .next => g
  | .ret v => pu (.ret v)
theorem ImplS.nil : ImplS c n sx [] (pu .next) := by
  intro p _ _ W0 W st s hle I b st' e Q E hQ; cases e
  exact wpAny_execs_nil (hQ W _ s (Ext.refl ..) I .next)
theorem ImplS.cons {t : Stmt} {ts : List Stmt} {f g : Cm AF} (h1 : ImplS1 c n sx t f) (h2 : ImplS c n sx ts g) : ImplS c n sx (t :: ts) (thenM f g) := by
  intro p hsx hr W0 W st s hle I b st' e Q E hQ
  obtain ⟨r, st1, e1, e2⟩ := bd_some e
  refine wpAny_execs_cons (h1 p hsx hr W W st s (Le.refl _) I r st1 e1 _ E fun W1 fl s1 x1 I1 r1 => ?_)
  cases r1 with
  | next => exact h2 p hsx hr W1 W1 st1 s1 (Le.refl _) I1 b st' e2 Q E fun W2 v s2 x2 I2 r2 => hQ W2 v s2 (x1.trans x2) I2 r2
  | ret hv => cases e2; exact hQ W1 _ s1 x1 I1 (.ret hv)
noncomputable def envS (sc : Scope) : Env := { scope := sc, locals := 0, globals := 0, cells := [] }
noncomputable def asgM (f : Cm AV) (g : AV → Cm Unit) : Cm AF := bd f fun x => bd (g x) fun _ => pu .next
theorem swaps1_static {t : Option Expr} {value : Expr} {line : Nat} {env : Env} {sc : Scope} (h : env.scope = sc) : swapsWith value t line env = swapsWith value t line (envS sc) := by
  obtain ⟨scope, locals, globals, cells, qual, func, code, frame, builtins⟩ := env
  dsimp only at h; subst h; rfl
theorem swaps_static {t : List Expr} {value : Expr} {line : Nat} {env : Env} {sc : Scope} (h : env.scope = sc) : swapsWithSole t value line env = swapsWithSole t value line (envS sc) := by
  cases t with
  | nil => rfl
  | cons a r =>
    cases r with
    | nil => exact swaps1_static h
    | cons => rfl
theorem stores_static {t : List Expr} {value : Expr} {env : Env} {sc : Scope} (h : env.scope = sc) : swappedStores t value env = swappedStores t value (envS sc) := by
  obtain ⟨scope, locals, globals, cells, qual, func, code, frame, builtins⟩ := env
  dsimp only at h; subst h; rfl
theorem assignAll_one {t : Expr} {env : Env} {v : Value} (h : plainX t = true) : assignAll v ((assignEach [t] env).map (·.2)) = assign t env v := by
  rw [assign_plain h]; rfl
theorem ImplS1.assign {t value : Expr} {pos : Pos} {f : Cm AV} {g : AV → Cm Unit} (h1 : ImplE c n sx value f) (h2 : ImplA c n sx t g)
    (hs : swapsWithSole [t] value pos.line (envS sx.sc) = pure false := by rfl) (hw : swappedStores [t] value (envS sx.sc) = pure .none := by rfl) (hp : plainX t = true := by rfl) :
    ImplS1 c n sx (.Assign [t] value pos) (asgM f g) := by
  intro p hsx hr W0 W st s hle I b st' e Q E hQ
  obtain ⟨x, st1, e1, e2⟩ := bd_some e
  obtain ⟨u, st2, e3, e4⟩ := bd_some e2
  cases e4
  have hsc : p.env.scope = sx.sc := by rw [I.fr.scope, hsx]
  refine wpAny_Assign_stores (h1 p hsx hr W W st s (Le.refl _) I x st1 e1 _ E fun W1 v s1 x1 I1 r1 => ?_) (by rw [swaps_static hsc]; exact hs) (by rw [stores_static hsc]; exact hw)
  rw [assignAll_one hp]
  exact h2 p hsx hr W1 v x r1 W1 st1 s1 (Le.refl _) I1 u st' e3 _ E fun W2 _ s2 x2 I2 _ => hQ W2 _ s2 (x1.trans x2) I2 .next
noncomputable def ImplN (c : Cx) (sx : Sx) (xs : List Str) (f : List AV → Cm Unit) : Prop :=
  ∀ p : Pl, p.sx = sx → ∀ W0 vals ys, VRs W0 vals ys → ys.length = xs.length → Ok c p W0 (assignInOrder (xs.map fun x => bindName p.env x) vals) (fun _ _ _ => True) (f ys)
theorem ImplN.nil : ImplN c sx [] nilA := by
  intro p hsx W0 vals ys h hl W st s hle I b st' e Q E hQ
  cases h with
  | nil => cases e; exact wpAny_pure (hQ W _ s (Ext.refl ..) I trivial)
  | cons => cases hl
theorem ImplN.cons {x : Str} {xs : List Str} {i : Nat} {g : List AV → Cm Unit} (hi : sx.vars[i]? = some x) (hw : sx.wr[i]? = some x) (h2 : ImplN c sx xs g) : ImplN c sx (x :: xs) (consA (setV i) g) := by
  have hw := List.mem_of_getElem? hw
  intro p hsx W0 vals ys h hl W st s hle I b st' e Q E hQ
  cases h with
  | nil => cases hl
  | cons hv hvs =>
    obtain ⟨u, st1, e1, e2⟩ := bd_some (show bd (setV i _) (fun _ => g _) st = some (b, st') from e)
    show wpAny _ _ (do holding _ (bindName p.env x _); assignInOrder (xs.map fun x => bindName p.env x) _) Q E s
    subst hsx
    refine wpAny_bind (wpAny_holding (wpAny_bindName (store_ok hi hw (hv.mono hle) W st s (Le.refl _) I u st1 e1 _ E fun W1 _ s1 x1 I1 _ => ?_)))
    exact h2 p rfl W1 _ _ ((hvs.mono hle).mono x1.le) (by simpa using hl) W1 st1 s1 (Le.refl _) I1 b st' e2 Q E fun W2 v s2 x2 I2 r2 => hQ W2 v s2 (x1.trans x2) I2 r2
noncomputable def swapM (k : Nat) (g : List AV → Cm Unit) : AV → Cm Unit := fun x => match x with
  | .tup xs => if xs.length = k then g xs.reverse else no
  | _ => no
theorem ImplS1.swapped {ts : List Expr} {k : Nat} {tpos : Pos} {value : Expr} {pos : Pos} {names : List Str} {f : Cm AV} {g : List AV → Cm Unit} (h1 : ImplE c n sx value f)
    (hw : swappedStores [.Tuple ts k tpos] value (envS sx.sc) = pure (some names)) (h2 : ImplN c sx names.reverse g)
    (hs : swapsWithSole [.Tuple ts k tpos] value pos.line (envS sx.sc) = pure false := by rfl) :
    ImplS1 c n sx (.Assign [.Tuple ts k tpos] value pos) (asgM f (swapM names.length g)) := by
  intro p hsx hr W0 W st s hle I b st' e Q E hQ
  obtain ⟨x, st1, e1, e2⟩ := bd_some e
  obtain ⟨u, st2, e3, e4⟩ := bd_some e2
  cases e4
  have hsc : p.env.scope = sx.sc := by rw [I.fr.scope, hsx]
  refine Assign_Tuple_swapped (names := names) (h1 p hsx hr W W st s (Le.refl _) I x st1 e1 _ E fun W1 v s1 x1 I1 r1 => ?_) (by rw [swaps_static hsc]; exact hs) (by rw [stores_static hsc]; exact hw)
  cases r1 with
  | @tup a o vs k xs hrole c1 c2 hvs =>
    simp only [swapM] at e3
    split at e3
    · rename_i hl
      have hsz : names.length = vs.toArray.size := by rw [List.size_toArray, hvs.length, hl]
      rw [hsz]
      refine wpAny_unpackItems_tuple hr.1 (I1.hr.isTuple hrole c1 c2) fun h' hx => ?_
      obtain ⟨I', x'⟩ := I1.unext hx
      exact h2 p hsx W1 _ _ hvs.reverse (by simp [hl]) W1 st1 _ (Le.refl _) I' u st' e3 _ E fun W2 _ s2 x2 I2 _ => hQ W2 _ s2 ((x1.trans x').trans x2) I2 .next
    · cases e3
  | _ => cases e3
noncomputable def dropM (f : Cm AV) : Cm AF := bd f fun _ => pu .next
theorem swapsE_static {value : Expr} {line : Nat} {env : Env} {sc : Scope} (h : env.scope = sc) : swapsWith value .none line env = swapsWith value .none line (envS sc) := by
  obtain ⟨scope, locals, globals, cells, qual, func, code, frame, builtins⟩ := env
  dsimp only at h; subst h; rfl
theorem ImplS1.expr {e : Expr} {pos : Pos} {f : Cm AV} (h : ImplE c n sx e f) (hi : interactive (envS sx.sc) = false := by rfl) (hs : swapsWith e .none pos.line (envS sx.sc) = pure false := by rfl) : ImplS1 c n sx (.Expr e pos) (dropM f) := by
  intro p hsx hr W0 W st s hle I b st' e Q E hQ
  obtain ⟨x, st1, e1, e2⟩ := bd_some e
  have hsc : p.env.scope = sx.sc := by rw [I.fr.scope, hsx]
  have hi' : interactive p.env = false := by rw [← hi]; unfold interactive; rw [hsc]; rfl
  refine wpAny_Expr_any (h p hsx hr W W st s (Le.refl _) I x st1 e1 _ E fun W1 v s1 x1 I1 r1 => ?_) hi' (by rw [swapsE_static hsc]; exact hs)
  cases e2; exact hQ W1 _ s1 x1 I1 .next
theorem ImplS1.ite {t : Expr} {a b : List Stmt} {pos : Pos} {ft : Cm Bool} {fa fb : Cm AF} (h0 : ImplT c n sx t ft) (h1 : ImplS c n sx a fa) (h2 : ImplS c n sx b fb) : ImplS1 c n sx (.If t a b pos) (iteM ft fa fb) := by
  intro p hsx hr W0 W st s hle I b st' e Q E hQ
  obtain ⟨x, st1, e1, e2⟩ := bd_some e
  refine wpAny_If (h0 p hsx hr W W st s (Le.refl _) I x st1 e1 _ E fun W1 a s1 x1 I1 r1 => ?_)
  subst r1
  cases a with
  | true => exact h1 p hsx hr W1 W1 st1 s1 (Le.refl _) I1 b st' e2 Q E fun W2 v s2 x2 I2 r2 => hQ W2 v s2 (x1.trans x2) I2 r2
  | false => exact h2 p hsx hr W1 W1 st1 s1 (Le.refl _) I1 b st' e2 Q E fun W2 v s2 x2 I2 r2 => hQ W2 v s2 (x1.trans x2) I2 r2
noncomputable def retM (f : Cm AV) : Cm AF := bd f fun x => pu (.ret x)
theorem ImplS1.ret {e : Expr} {pos : Pos} {f : Cm AV} (h : ImplE c n sx e f) : ImplS1 c n sx (.Return (some e) pos) (retM f) := by
  intro p hsx hr W0 W st s hle I b st' e Q E hQ
  obtain ⟨x, st1, e1, e2⟩ := bd_some e
  cases e2
  exact wpAny_Return_some (h p hsx hr W W st s (Le.refl _) I x st' e1 _ E fun W1 v s1 x1 I1 r1 => hQ W1 _ s1 x1 I1 (.ret r1))
end
end Mine

namespace Mine

section
variable {c : Cx} {n : Nat} {sx : Sx}

noncomputable def frz0 (seg : List (Nat × List AV)) : AV → AV
  | .lob k => (match lookL k seg with | some xs => .lst xs | .none => .lob k)
  | v => v
noncomputable def frzV (seg : List (Nat × List AV)) : AV → AV
  | .tup vs => .tup (vs.map (frz0 seg))
  | v => frz0 seg v
noncomputable def Wd.freeze (W : Wd) (seg : List (Nat × List AV)) (h : Heap) : Wd :=
  { W with role := fun a => match W.role a with
      | .lob k => if (lookL k seg).isSome then (match h.get? a with | some o => .frz o | .none => .oth) else .lob k
      | r => r }
theorem freeze_role {W : Wd} {seg : List (Nat × List AV)} {h : Heap} {a : Addr} (hn : ∀ k, W.role a ≠ .lob k) : (W.freeze seg h).role a = W.role a := by
  unfold Wd.freeze
  dsimp only
  split
  · rename_i k e; exact absurd e (hn k)
  · rfl
theorem freeze_lob {W : Wd} {seg : List (Nat × List AV)} {h : Heap} {a : Addr} {k : Nat} (e : W.role a = .lob k) : (W.freeze seg h).role a = if (lookL k seg).isSome then (match h.get? a with | some o => .frz o | .none => .oth) else .lob k := by
  unfold Wd.freeze
  dsimp only
  rw [e]
theorem Le.freeze (W : Wd) (seg : List (Nat × List AV)) (h : Heap) : Le W (W.freeze seg h) :=
  ⟨Nat.le_refl _, Nat.le_refl _, fun _ _ => rfl, fun _ _ => rfl, fun _ _ => rfl, fun a o e => by rw [freeze_role (by intro k q; rw [e] at q; cases q)]; exact e⟩
theorem lookL_mem {k : Nat} {xs : List AV} : ∀ {seg : List (Nat × List AV)}, lookL k seg = some xs → (k, xs) ∈ seg
  | [], h => by cases h
  | (j, ys) :: r, h => by
    simp only [lookL] at h
    split at h
    · rename_i q; subst q; cases h; exact List.mem_cons_self
    · exact List.mem_cons_of_mem _ (lookL_mem h)
theorem HR.freezeSeg {W : Wd} {st : AS} {h : Heap} {seg : List (Nat × List AV)} {r : LH} (H : HR c W st h) (e : st.lst = seg :: r) : HR c (W.freeze seg h) { st with lst := r } h := by
  have L := Le.freeze W seg h
  refine ⟨H.keep, fun a ha => ?_, fun a => ?_, fun a o ha => ?_, H.ni, H.nl, fun k hk => ?_, fun k i e' => ?_, fun g hg p hp => ?_, ?_⟩
  · rcases Classical.em (∃ k, W.role a = .lob k) with ⟨k, q⟩ | q
    · refine H.mutA a ?_; unfold Wd.Mut; rw [q]; trivial
    · refine H.mutA a ?_; unfold Wd.Mut at ha ⊢; rwa [freeze_role (fun k hk => q ⟨k, hk⟩)] at ha
  · rcases Classical.em (∃ k, W.role a = .lob k) with ⟨k, q⟩ | q
    · rcases H.lt a with z | z
      · rw [q] at z; cases z
      · exact .inr z
    · rw [freeze_role (fun k hk => q ⟨k, hk⟩)]; exact H.lt a
  · rcases Classical.em (∃ k, W.role a = .lob k) with ⟨k, q⟩ | q
    · rw [freeze_lob q] at ha
      split at ha
      · split at ha
        · rename_i o' ho; cases ha; exact ho
        · cases ha
      · cases ha
    · rw [freeze_role (fun k hk => q ⟨k, hk⟩)] at ha; exact H.frz a o ha
  · obtain ⟨r1, r2⟩ := H.iaR k hk
    exact ⟨(freeze_role (a := W.ia k) (by intro j q; rw [r1] at q; cases q)).trans r1, (freeze_role (a := W.da k) (by intro j q; rw [r2] at q; cases q)).trans r2⟩
  · obtain ⟨es, m, e1, e2, r3⟩ := H.insA k i e'
    exact ⟨es, m, e1, e2, r3.mono L⟩
  · obtain ⟨h1, h2, vs, m, h3, h4⟩ := H.lstA g (by rw [e]; exact List.mem_cons_of_mem _ hg) p hp
    refine ⟨h1, ?_, vs, m, h3, h4.mono L⟩
    show (W.freeze seg h).role (W.la p.1) = _
    rw [freeze_lob h2, if_neg]
    intro q
    obtain ⟨ys, hy⟩ := Option.isSome_iff_exists.mp q
    have nd := H.nodup
    rw [e, List.flatten_cons, List.map_append] at nd
    exact (List.nodup_append.mp nd).2.2 p.1 (List.mem_map.mpr ⟨_, lookL_mem hy, rfl⟩) p.1 (List.mem_map.mpr ⟨p, List.mem_flatten.mpr ⟨g, hg, hp⟩, rfl⟩) rfl
  · have nd := H.nodup
    rw [e, List.flatten_cons, List.map_append] at nd
    exact (List.nodup_append.mp nd).2.1
theorem frz0_ok {W : Wd} {st : AS} {h : Heap} {seg : List (Nat × List AV)} {r : LH} (H : HR c W st h) (e : st.lst = seg :: r) {val : Value} {v : AV} (hv : VR W val v) : VR (W.freeze seg h) val (frz0 seg v) := by
  have L := Le.freeze W seg h
  cases hv with
  | lob k hk =>
    simp only [frz0]
    split
    · rename_i xs hx
      obtain ⟨h1, h2, vs, m, h3, h4⟩ := H.lstA seg (by rw [e]; exact List.mem_cons_self) _ (lookL_mem hx)
      refine .lst (n := m) (vs := vs) ?_ (h4.mono L)
      dsimp only at h2 h3
      rw [freeze_lob h2, hx, h3]; rfl
    · exact (VR.lob k hk).mono L
  | none => exact .none
  | bool b => exact .bool b
  | int i t => exact .int i t
  | str x t => exact .str x t
  | bytes x t => exact .bytes x t
  | val _ hu => exact .val _ hu
  | ins k hk => exact (VR.ins k hk).mono L
  | lst h1 h2 => exact (VR.lst h1 h2).mono L
  | tup h1 h2 h3 h4 => exact (VR.tup h1 h2 h3 h4).mono L
  | lsb h1 h2 h3 h4 => exact (VR.lsb h1 h2 h3 h4).mono L
theorem frzV_ok {W : Wd} {st : AS} {h : Heap} {seg : List (Nat × List AV)} {r : LH} (H : HR c W st h) (e : st.lst = seg :: r) {val : Value} {v : AV} (hv : VR W val v) : VR (W.freeze seg h) val (frzV seg v) := by
  cases hv with
  | @tup _ _ vs m xs h1 h3 h4 h2 =>
    refine .tup ((Le.freeze W seg h).frz _ _ h1) h3 h4 ?_
    clear h1 h3 h4
    induction vs generalizing xs with
    | nil => cases h2; exact .nil
    | cons u us ih => cases h2 with | cons a b => exact .cons (frz0_ok H e a) (ih b)
  | none => exact frz0_ok H e .none
  | bool b => exact frz0_ok H e (.bool b)
  | int i t => exact frz0_ok H e (.int i t)
  | str x t => exact frz0_ok H e (.str x t)
  | bytes x t => exact frz0_ok H e (.bytes x t)
  | val _ hu => exact frz0_ok H e (.val _ hu)
  | ins k hk => exact frz0_ok H e (.ins k hk)
  | lob k hk => exact frz0_ok H e (.lob k hk)
  | lst h1 h2 => exact frz0_ok H e (.lst h1 h2)
  | lsb h1 h2 h3 h4 => exact frz0_ok H e (.lsb h1 h2 h3 h4)
noncomputable def ImplF (c : Cx) (n : Nat) (fa : Addr) (F : List AV → Cm AV) : Prop :=
  ∀ (A : Around) (W : Wd) (st : AS) (s : Shared), Room n A → HR c W st s.heap → ∀ vs xs, VRs W vs xs → ∀ v st', F xs st = some (v, st') →
    ∀ R : Result → Shared → Prop, (∀ W' val s', Ext (fun _ => False) W s W' s' → HR c W' st' s'.heap → VR W' val v → R (.ok (.ret val)) s') → codeAny (model c.prog c.w) A (.call (.ref fa) ⟨vs, []⟩) R s
noncomputable def endFn (loc : List AV) (v : AV) : Cm AV := fun st => match st.lst with
  | seg :: r => some (frzV seg v, { st with lst := r, loc := loc })
  | [] => .none
noncomputable def runFnG (fin : List AV → AV → Cm AV) (k m : Nat) (g : Cm AF) (xs : List AV) : Cm AV := fun st =>
  if xs.length = k then
    match g { st with loc := xs ++ List.replicate m .unb, lst := [] :: st.lst } with
    | some (.ret v, st1) => fin st.loc v st1
    | some (.next, st1) => fin st.loc .none st1
    | .none => .none
  else .none
noncomputable def FinOk (c : Cx) (fin : List AV → AV → Cm AV) : Prop := ∀ (W : Wd) (st st' : AS) (h : Heap) (loc : List AV) (u v : AV) (val : Value), fin loc u st = some (v, st') → HR c W st h → VR W val u →
  ∃ W', Le W W' ∧ HR c W' st' h ∧ VR W' val v ∧ ∀ a, W.role a = .oth → W'.role a = .oth
noncomputable def runFn (k m : Nat) (g : Cm AF) (xs : List AV) : Cm AV := runFnG endFn k m g xs
theorem ImplF.sub {fa : Addr} {F F' : List AV → Cm AV} (h : ImplF c n fa F) (k : ∀ xs st b st', F' xs st = some (b, st') → F xs st = some (b, st')) : ImplF c n fa F' :=
  fun A W st s hr H vs xs hv v st' e R hR => h A W st s hr H vs xs hv v st' (k _ _ _ _ e) R hR
theorem bindL_skip {kindOf : Str → Option NameKind} {x : Str} : ∀ {b : List (Str × Value)} {m : Str → Option Value}, (∀ y ∈ b, y.1 ≠ x) → bindL kindOf b m x = m x
  | [], _, _ => rfl
  | (y, v) :: r, m, h => by
    unfold bindL
    rw [bindL_skip (fun z hz => h z (List.mem_cons_of_mem _ hz))]
    split
    · exact if_neg (Ne.symm (h (y, v) List.mem_cons_self))
    · rfl
theorem bindL_get {kindOf : Str → Option NameKind} {x : Str} (hk : kindOf x = some .local) : ∀ {names : List Str} {vals : List Value} {m : Str → Option Value} {i : Nat} {v : Value}, names.Nodup → names[i]? = some x → vals[i]? = some v → bindL kindOf (names.zip vals) m x = some v
  | [], _, _, i, _, _, h, _ => by simp at h
  | _ :: _, [], _, i, _, _, _, h => by simp at h
  | y :: ys, u :: us, m, i, v, hn, hx, hv => by
    obtain ⟨h1, h2⟩ := List.nodup_cons.mp hn
    rw [List.zip_cons_cons]
    unfold bindL
    cases i with
    | zero =>
      simp at hx hv
      subst hx hv
      rw [bindL_skip (fun z hz q => h1 (by have := (List.of_mem_zip (show (z.1, z.2) ∈ _ from hz)).1; rwa [q] at this)), if_pos hk]
      exact if_pos rfl
    | succ i =>
      simp at hx hv
      exact bindL_get hk h2 hx hv
theorem bindC_skip {kindOf : Str → Option NameKind} {x : Str} : ∀ {b : List (Str × Value)} {m : Str → Option Value}, (∀ y ∈ b, y.1 ≠ x) → bindC kindOf b m x = m x
  | [], _, _ => rfl
  | (y, v) :: r, m, h => by
    unfold bindC
    rw [bindC_skip (fun z hz => h z (List.mem_cons_of_mem _ hz))]
    split
    · rfl
    · exact if_neg (Ne.symm (h (y, v) List.mem_cons_self))
theorem bindC_get {kindOf : Str → Option NameKind} {x : Str} (hk : kindOf x ≠ some .local) : ∀ {names : List Str} {vals : List Value} {m : Str → Option Value} {i : Nat} {v : Value}, names.Nodup → names[i]? = some x → vals[i]? = some v → bindC kindOf (names.zip vals) m x = some v
  | [], _, _, i, _, _, h, _ => by simp at h
  | _ :: _, [], _, i, _, _, _, h => by simp at h
  | y :: ys, u :: us, m, i, v, hn, hx, hv => by
    obtain ⟨h1, h2⟩ := List.nodup_cons.mp hn
    rw [List.zip_cons_cons]
    unfold bindC
    cases i with
    | zero =>
      simp at hx hv
      subst hx hv
      rw [bindC_skip (fun z hz q => h1 (by have := (List.of_mem_zip (show (z.1, z.2) ∈ _ from hz)).1; rwa [q] at this)), if_neg hk]
      exact if_pos rfl
    | succ i =>
      simp at hx hv
      exact bindC_get hk h2 hx hv
theorem mem_filterMap_lookup {cs : List (Str × Addr)} {vars : List Str} {a : Addr} (h : a ∈ vars.filterMap fun x => cs.lookup x) : ∃ x, cs.lookup x = some a := by
  obtain ⟨x, _, e⟩ := List.mem_filterMap.mp h; exact ⟨x, e⟩
structure FnIs (c : Cx) (fa : Addr) (fd : FuncData) (body : List Stmt) (names others : List Str) : Prop where
  at_ : ∃ oc od osl, c.K.lookup fa = some ⟨oc, od, .func fd, osl⟩
  body : fd.body = .stmts body
  clo : fd.closure = []
  globals : fd.globals = mainGlobals
  builtins : fd.builtins = builtinsNs
  code : codeIn c.K fd.code fd.qualname = true
  co : fd.scope.isCoroutine = false
  gen : fd.scope.isGenerator = false
  kind : fd.scope.kind = .function
  bind : ∀ vals : List Value, vals.length = names.length → bindArgs fd ⟨vals, []⟩ = pure (names.zip vals)
  kinds : ((names ++ others).all fun x => fd.scope.names.lookup x == some .local || fd.scope.names.lookup x == some .cell) = true
  nodup : (names ++ others).Nodup
theorem fn_okG (G : Gd c) {fa : Addr} {fd : FuncData} {body : List Stmt} {names others : List Str} {g : Cm AF} {fnl : List AV → AV → Cm AV} (FO : FinOk c fnl) (D : FnIs c fa fd body names others)
    (hS : ImplS c n ⟨fd.scope, names ++ others, names ++ others⟩ body g) : ImplF c (n + 1) fa (runFnG fnl names.length others.length g) := by
  intro A W st s hr H vs xs hv v st' e R hR
  obtain ⟨oc, od, osl, hK⟩ := D.at_
  have ho := H.keep _ _ (G.inK _ _ hK)
  unfold runFnG at e
  by_cases hlen : xs.length = names.length
  case neg => rw [if_neg hlen] at e; cases e
  rw [if_pos hlen] at e
  have hlv : vs.length = names.length := by rw [hv.length, hlen]
  have hkinds : ∀ x, x ∈ names ++ others → fd.scope.names.lookup x = some .local ∨ fd.scope.names.lookup x = some .cell := fun x hx => by
    have := List.all_eq_true.mp D.kinds x hx
    simpa using this
  have hcell : ∀ x, x ∈ names ++ others → fd.scope.names.lookup x = some .cell → ∀ m, ((cellsFrom m fd.scope.names []).lookup x).isSome = true := fun x _ hx m => cellsFrom_some _ _ _ (.inl hx)
  refine codeAny_call_cells hr.depth ho rfl (G.nolimit.keeps H.keep) (codeRec_of (K := c.K) (fun a o q => H.keep _ _ (G.inK a o q)) D.code) D.body (D.bind vs hlv) D.clo ?_ (fun s1 x1 => ?_) D.co D.gen D.kind
  · intro x hx
    have hm := (List.of_mem_zip (show (x.1, x.2) ∈ names.zip vs from hx)).1
    rcases hkinds x.1 (List.mem_append_left _ hm) with q | q
    · exact .inl q
    · exact .inr ⟨q, hcell _ (List.mem_append_left _ hm) q _⟩
  · -- the new frame
    let env := callEnvC fd s.heap.objs.size fa
    let p : Pl := ⟨A.deeper env, ⟨fd.scope, names ++ others, names ++ others⟩, env, (names ++ others).filterMap fun x => env.cells.lookup x⟩
    have hL : env.locals = s.heap.objs.size := rfl
    have hnL : s.heap.get? s.heap.objs.size = .none := get_none_of_ge (Nat.le_refl _)
    have hnC : ∀ y a, env.cells.lookup y = some a → s.heap.get? a = .none := fun y a q => get_none_of_ge (Nat.le_of_lt (x1.above y a (mem_of_lookup q)))
    obtain ⟨h1, tk1, rfl⟩ := x1.toInCall.same
    have k1 := x1.toInCall.keep
    have I1 : Inv c p W { st with loc := xs ++ List.replicate others.length .unb, lst := [] :: st.lst } { s with heap := h1, toks := tk1 } := by
      refine ⟨⟨fun a o q => k1 _ _ (H.keep a o q), H.mutA, fun a => (H.lt a).imp id fun ⟨o, q⟩ => ⟨o, k1 a o q⟩, fun a o q => k1 _ _ (H.frz a o q), H.ni, H.nl, H.iaR, fun k i q => ?_, fun gg hg pp hp => ?_, ?_⟩, ?_⟩
      · obtain ⟨es, m, e1, e2, r⟩ := H.insA k i q
        exact ⟨es, m, k1 _ _ e1, k1 _ _ e2, r⟩
      · rcases List.mem_cons.mp hg with q | hg
        · subst q; cases hp
        · obtain ⟨q1, q2, us, m, q3, q4⟩ := H.lstA gg hg pp hp
          exact ⟨q1, q2, us, m, k1 _ _ q3, q4⟩
      · show ((([] : List (Nat × List AV)) ++ st.lst.flatten).map (·.1)).Nodup
        exact H.nodup
      · refine ⟨⟨_, x1.toInCall.ns, fun i x u a1 a2 a3 a4 => ?_⟩, fun i x u a1 a2 a3 a4 => ?_, fun y a q => ⟨_, x1.cell y a q⟩, fun x hx hk => ?_, hkinds, x1.apart, fun a ha => mem_filterMap_lookup ha, H.oth_of_none hnL, fun y a q => ⟨H.oth_of_none (hnC y a q), Nat.ne_of_gt (x1.above y a (mem_of_lookup q)), H.base_none (hnC y a q)⟩, H.base_none hnL, rfl, D.kind, D.globals, D.builtins, D.nodup⟩
        · have hi : i < names.length := by
            rcases Nat.lt_or_ge i names.length with q | q
            · exact q
            · exfalso
              rw [List.getElem?_append_right (by omega)] at a2
              rw [List.getElem?_replicate] at a2
              split at a2
              · cases a2; exact a3 rfl
              · cases a2
          rw [List.getElem?_append_left hi] at a1
          rw [List.getElem?_append_left (by omega)] at a2
          obtain ⟨w, b1, b2⟩ := hv.get a2
          exact ⟨w, bindL_get a4 (List.nodup_append.mp D.nodup).1 a1 b1, b2⟩
        · have hi : i < names.length := by
            rcases Nat.lt_or_ge i names.length with q | q
            · exact q
            · exfalso
              rw [List.getElem?_append_right (by omega)] at a2
              rw [List.getElem?_replicate] at a2
              split at a2
              · cases a2; exact a3 rfl
              · cases a2
          rw [List.getElem?_append_left hi] at a1
          rw [List.getElem?_append_left (by omega)] at a2
          obtain ⟨w, b1, b2⟩ := hv.get a2
          obtain ⟨a, q⟩ := Option.isSome_iff_exists.mp (hcell x (List.mem_append_left _ (List.mem_of_getElem? a1)) a4 (s.heap.objs.size + 1))
          have := x1.cell x a q
          rw [bindC_get (by rw [a4]; intro z; cases z) (List.nodup_append.mp D.nodup).1 a1 b1] at this
          exact ⟨w, a, q, this, b2⟩
        · obtain ⟨a, q⟩ := Option.isSome_iff_exists.mp (hcell x hx hk (s.heap.objs.size + 1))
          exact ⟨a, q, fun _ => List.mem_filterMap.mpr ⟨x, hx, q⟩⟩
    have hown : ∀ a, p.Own a → s.heap.get? a = .none := fun a ha => by
      rcases ha with rfl | ha
      · exact hnL
      · obtain ⟨x, q⟩ := mem_filterMap_lookup ha; exact hnC x a q
    have fin : ∀ (fl : Flow) (u : AV) (st1 : AS), fnl st.loc u st1 = some (v, st') →
        ∀ W1 s2, Ext p.Own W { s with heap := h1, toks := tk1 } W1 s2 → Inv c p W1 st1 s2 → VR W1 (match fl with | .ret w => w | _ => .none) u → R (.ok (.ret (match fl with | .ret w => w | _ => .none))) s2 := by
      intro fl u st1 e' W1 s2 x2 I2 r2
      obtain ⟨W2, l2, h2, r3, o2⟩ := FO W1 st1 st' s2.heap st.loc u v _ e' I2.hr r2
      exact hR W2 _ s2 ⟨x2.le.trans l2, fun a o q => x2.alive a o (k1 a o q), fun a o q z => o2 a (x2.oth a o (k1 a o q) z), fun a o hm _ q => x2.kept a o hm (fun z => by rw [hown a z] at q; cases q) (k1 a o q), x2.gens, x2.os⟩ h2 r3
    have body := hS p rfl (hr.deeper env) W W _ _ (Le.refl _) I1
    refine wpAny_noRaise ?_
    split at e
    · rename_i u st1 hg
      refine body _ _ hg _ _ fun W1 fl s2 x2 I2 r2 => ?_
      cases r2 with
      | ret r2 => exact fin (.ret _) u st1 e W1 s2 x2 I2 r2
    · rename_i st1 hg
      refine body _ _ hg _ _ fun W1 fl s2 x2 I2 r2 => ?_
      cases r2 with
      | next => exact fin .next .none st1 e W1 s2 x2 I2 .none
    · cases e
theorem endFn_ok : FinOk c endFn := by
  intro W st st' h loc u v val e H r
  unfold endFn at e
  split at e
  · rename_i seg r' hseg
    cases e
    exact ⟨W.freeze seg h, Le.freeze .., (H.freezeSeg hseg).loc _, frzV_ok H hseg r, fun a z => by rw [freeze_role (by intro k zz; rw [z] at zz; cases zz)]; exact z⟩
  · cases e
theorem fn_ok (G : Gd c) {fa : Addr} {fd : FuncData} {body : List Stmt} {names others : List Str} {g : Cm AF} (D : FnIs c fa fd body names others)
    (hS : ImplS c n ⟨fd.scope, names ++ others, names ++ others⟩ body g) : ImplF c (n + 1) fa (runFn names.length others.length g) := fn_okG G endFn_ok D hS
noncomputable def OkCall (c : Cx) (n : Nat) (f : Value) (F : List AV → Cm AV) : Prop := ∀ p : Pl, Room n p.A → ∀ W0 vs xs, VRs W0 vs xs → Ok c p W0 (call f vs) VR (F xs)
noncomputable def callM (F : List AV → Cm AV) (xs : List AV) : Cm AV := fun st => match F xs st with
  | some (v, st') => some (v, { st' with loc := st.loc })
  | .none => .none
theorem ImplF.call {fa : Addr} {F : List AV → Cm AV} (h : ImplF c n fa F) : OkCall c n (.ref fa) (callM F) := by
  intro p hr W0 vs xs hv W st s hle I b st' e Q E hQ
  unfold callM at e
  split at e
  · rename_i v st1 hF
    cases e
    refine wpAny_call (h p.A W st s hr I.hr vs xs (hv.mono hle) _ _ hF _ fun W' val s' x H r => ?_)
    exact hQ W' val s' (x.weaken fun _ q => q.elim) ⟨H.loc _, I.fr.ext x (fun q => q) fun _ _ _ q => q⟩ r
  · cases e
theorem evalArgs_row {M : Model} {A : Around} {E : Value → Shared → Prop} {s : Shared} {f : Value} {env : Env} {pos : Pos} {es : List Expr} {Q : Args → Shared → Prop} (hp : es.all plainX = true)
    (h : wpAny M A (spliced (backTo pos (starEach es env))) (fun vs s' => Q ⟨vs, []⟩ s') E s) : wpAny M A (evalArgs f true (backTo pos (starEach es env)) []) Q E s := by
  cases es with
  | nil =>
    unfold evalArgs
    show wpAny M A (spliced [] >>= _) Q E s
    exact wpAny_bind (wpAny_mono h (fun vs s' h' => wpAny_bind (wpAny_pure (wpAny_holding (wpAny_bind (wpAny_pure (wpAny_bind (wpAny_pure (wpAny_pure h')))))))) fun _ _ x => x)
  | cons e r =>
    have he : plainX e = true := (Bool.and_eq_true_iff.mp (List.all_cons ▸ hp)).1
    rw [star_plain he] at h ⊢
    exact Calls.evalArgs_plain h
theorem any_false {es : List Expr} {env : Env} {pos : Pos} (hp : es.all plainX = true) : (backTo pos (starEach es env)).any (·.1) = false := by
  induction es with
  | nil => rfl
  | cons e r ih =>
    obtain ⟨h1, h2⟩ := Bool.and_eq_true_iff.mp (List.all_cons ▸ hp)
    rw [star_plain h1]
    show (false || (backTo pos (starEach r env)).any (·.1)) = false
    rw [ih h2]; rfl
theorem ImplE.callFn (G : Gd c) {x : Str} {p0 pos : Pos} {es : List Expr} {fa : Addr} {fs : Cm (List AV)} {F : List AV → Cm AV} (hx : sx.sc.names.lookup x = some .globalImplicit) (hg : c.Glob x (.ref fa))
    (hfn : ∃ oc od fd osl, c.K.lookup fa = some ⟨oc, od, .func fd, osl⟩) (h1 : ImplEs c n sx es fs) (h2 : ImplF c n fa F) (hd : (x == ("__debug__" : Str)) = false := by decide) (hp : es.all plainX = true := by rfl) :
    ImplE c n sx (.Call (.Name x p0) es [] pos) (bd fs (callM F)) := by
  intro p hsx hr W0 W st s hle I b st' e Q E hQ
  obtain ⟨xs, st1, e1, e2⟩ := bd_some e
  obtain ⟨oc, od, fd, osl, hK⟩ := hfn
  refine Call_ (load_glob G I (by rw [hsx]; exact hx) hg hd ?_)
  refine Calls.callWith_function (o := ⟨oc, od, .func fd, osl⟩) (fd := fd) (evalArgs_row hp ?_)
  refine h1 p hsx hr W pos W st s (Le.refl _) I xs st1 e1 _ E fun W1 vs s1 x1 I1 r1 => ?_
  refine ⟨⟨I1.hr.keep _ _ (G.inK _ _ hK), rfl⟩, ?_⟩
  exact h2.call p hr W1 vs xs r1 W1 st1 s1 (Le.refl _) I1 b st' e2 Q E fun W2 v s2 x2 I2 r2 => hQ W2 v s2 (x1.trans x2) I2 r2
theorem ImplE.callB (G : Gd c) {x : Str} {p0 pos : Pos} {es : List Expr} {id : String} {fs : Cm (List AV)} {F : List AV → Cm AV} (hx : sx.sc.names.lookup x = some .globalImplicit) (hg : c.Glob x (.builtin id))
    (h1 : ImplEs c n sx es fs) (h2 : OkCall c n (.builtin id) F) (hd : (x == ("__debug__" : Str)) = false := by decide) (hp : es.all plainX = true := by rfl) :
    ImplE c n sx (.Call (.Name x p0) es [] pos) (bd fs F) := by
  intro p hsx hr W0 W st s hle I b st' e Q E hQ
  obtain ⟨xs, st1, e1, e2⟩ := bd_some e
  refine Call_ (load_glob G I (by rw [hsx]; exact hx) hg hd ?_)
  refine Calls.callWith_builtin (any_false hp) (evalArgs_row hp ?_)
  refine h1 p hsx hr W pos W st s (Le.refl _) I xs st1 e1 _ E fun W1 vs s1 x1 I1 r1 => ?_
  exact h2 p hr W1 vs xs r1 W1 st1 s1 (Le.refl _) I1 b st' e2 Q E fun W2 v s2 x2 I2 r2 => hQ W2 v s2 (x1.trans x2) I2 r2
end
end Mine

namespace Mine

structure Cls (c : Cx) : Prop where
  makes : makesIn c.K c.C = true
  ga : findIn c.K (.ref c.C) "__getattribute__" = some (some (.builtin "object.__getattribute__"))
  gat : findIn c.K (.ref c.C) "__getattr__" = some .none
  sa : findIn c.K (.ref c.C) "__setattr__" = some (some (.builtin "object.__setattr__"))
  plain : plainOver c.K c.C = true
  hasDict : hasDictIn c.K c.C = true
  fields : ∀ f : Fd, findIn c.K (.ref c.C) (fkey f) = some .none
  keep : keepIn c.K (.ref c.C) = true
section
variable {c : Cx} {n : Nat} {sx : Sx}

theorem HR.inK (G : Gd c) {W : Wd} {st : AS} {h : Heap} (H : HR c W st h) : c.K.In h := fun a o e => H.keep a o (G.inK a o e)
theorem HR.instAt {W : Wd} {st : AS} {h : Heap} (H : HR c W st h) {k : Nat} {i : Ins} (e : st.ins[k]? = some i) : ∃ es m, InstAt h (W.ia k) (instObj c.C (W.da k)) c.C (some (dictOf es m)) ∧ FieldsAre W es i := by
  obtain ⟨es, m, e1, e2, r⟩ := H.insA k i e
  exact ⟨es, m, ⟨e1, rfl, rfl, e2⟩, r⟩
theorem set_raw (C : Cls c) {A : Around} {E : Value → Shared → Prop} {s : Shared} {x d : Addr} {es : List DictEntry} {m : Nat} {name : Str} {v : Value} {Q : Unit → Shared → Prop} (X : c.K.In s.heap)
    (I : InstAt s.heap x (instObj c.C d) c.C (some (dictOf es m))) (hf : findIn c.K (.ref c.C) name = some .none) (hl : (PySem.W.getL name es).isSome = true) (hz : (PySem.W.putL name (PyData.keyHash c.w.params name) (.str name (s.toks + 1)) v es).length ≤ 1000)
    (h : ∀ h', h'.get? d = some (dictOf (PySem.W.putL name (PyData.keyHash c.w.params name) (.str name (s.toks + 1)) v es) (putN name es m)) → Heap.SameBut d s.heap h' → Q () { s with heap := h', toks := s.toks + 2 }) :
    wpAny (model c.prog c.w) A (setAttr (.ref x) name v) Q E s := by
  refine set_plain X I C.sa ?_
  refine osa_open (s := { s with toks := s.toks + 1 }) X I C.plain (r := .none) (by unfold takerIn; rw [hf]; rfl) fun b => ?_
  obtain ⟨cd, hc, hd'⟩ := any_some C.hasDict
  have D : s.heap.get? d = some (dictOf es m) := I.dict
  have D' : (s.heap.update d (Obj.putName name (PyData.keyHash c.w.params name) (.str name (s.toks + 1)) v)).get? d = some (dictOf (PySem.W.putL name (PyData.keyHash c.w.params name) (.str name (s.toks + 1)) v es) (putN name es m)) := by
    rw [← putName_dict]
    exact Heap.get?_update_self _ D (by rw [putName_dict]; rfl)
  refine wpAny_bind (wpAny_pure (wpAny_bind (wpAny_bind (wpAny_loadPart I.at_ (wpAny_bind (looks_clsIn X hc _ _ _ _ (fun _ _ e => e) ?_))))))
  rw [hd']
  refine wpAny_pure (a := some d) (wpAny_bind (wpAny_pure (wpAny_bind ?_)))
  unfold nsSet
  refine wpAny_bind (wpAny_bind (wpAny_askSetting (wpAny_pure (wpAny_bind (wpAny_mkText (wpAny_bind (wpAny_loadPart D ?_)))))))
  dsimp only
  have cc : (!es.toArray.any (·.key.isStr name) && es.toArray.any (·.refKey)) = false := by
    rw [← Array.any_toList, ← Array.any_toList]
    unfold PySem.W.getL at hl
    split at hl
    · rename_i en he
      rw [List.any_eq_true.mpr ⟨en, List.mem_of_find?_eq_some he, List.find?_some he⟩]; rfl
    · split at hl
      · cases hl
      · rename_i z; rw [Bool.not_eq_true] at z; rw [z, Bool.and_false]
  rw [aRefKeyMayBeTheName_at, cc]
  refine wpAny_updatePart D ?_
  refine wpAny_bind (wpAny_lookBehind D' (pastItsLine_dict (by rw [List.size_toArray, sizeLine_eq]; omega)) ?_)
  exact wpAny_pure (h _ D' (Heap.SameBut.update ..))
noncomputable def attrM (f : Fd) : AV → Cm AV := fun o => match o with
  | .ins k => fun st => (match st.ins[k]? with | some i => some (i.get f, st) | .none => .none)
  | _ => no
noncomputable def putM (f : Fd) : AV → AV → Cm Unit := fun o v => match o with
  | .ins k => fun st => (match st.ins[k]? with | some i => some ((), { st with ins := st.ins.set k (i.put v f) }) | .none => .none)
  | _ => no
theorem attr_ok (G : Gd c) (C : Cls c) {p : Pl} {W0 : Wd} {f : Fd} {o : Value} {x : AV} (hv : VR W0 o x) : Ok c p W0 (getAttr o (fkey f) true) VR (attrM f x) := by
  intro W st s hle I b st' e Q E hQ
  cases hv.mono hle with
  | ins k hk =>
    simp only [attrM] at e
    split at e
    · rename_i i hi
      cases e
      obtain ⟨es, m, J, r⟩ := I.hr.instAt hi
      obtain ⟨v, hl, rv⟩ := r.get f
      refine get_value (I.hr.inK G) J C.ga (findObj_own C.hasDict (C.fields f) rfl hl) rv.handed ?_
      exact hQ W v _ ((Ext.refl ..).toks _) (I.toks _) rv
    · cases e
  | _ => cases e
theorem HR.dct {W : Wd} {st : AS} {h h' : Heap} {k : Nat} {i : Ins} {es : List DictEntry} {m : Nat} (H : HR c W st h) (hi : ∃ i0, st.ins[k]? = some i0) (hd : h'.get? (W.da k) = some (dictOf es m)) (hs : Heap.SameBut (W.da k) h h') (hf : FieldsAre W es i) :
    HR c W { st with ins := st.ins.set k i } h' := by
  obtain ⟨i0, hi⟩ := hi
  have hk : k < W.ni := by rw [H.ni]; exact (List.getElem?_eq_some_iff.mp hi).1
  obtain ⟨r1, r2⟩ := H.iaR k hk
  have hm : W.Mut (W.da k) := by unfold Wd.Mut; rw [r2]; trivial
  have kp : ∀ a o, a ≠ W.da k → h.get? a = some o → h'.get? a = some o := fun a o ha e => hs.extBut a o ha e
  refine ⟨fun a o e => kp a o (fun q => ?_) (H.keep a o e), H.mutA, fun a => ?_, fun a o e => kp a o (fun q => ?_) (H.frz a o e), ?_, H.nl, H.iaR, fun j y e => ?_, fun g hg q hq => ?_, H.nodup⟩
  · rw [q, H.mutA _ hm] at e; cases e
  · rcases Classical.em (a = W.da k) with q | q
    · subst q; exact .inr ⟨_, hd⟩
    · exact (H.lt a).imp id fun ⟨o, z⟩ => ⟨o, kp a o q z⟩
  · rw [q, r2] at e; cases e
  · show W.ni = (st.ins.set k i).length; rw [List.length_set]; exact H.ni
  · have e' : (st.ins.set k i)[j]? = some y := e
    rw [List.getElem?_set] at e'
    by_cases hkj : k = j
    · subst hkj
      rw [if_pos rfl] at e'
      split at e'
      · cases e'
        obtain ⟨es0, m0, e1, e2, _⟩ := H.insA k i0 hi
        exact ⟨es, m, kp _ _ (fun q => by rw [q, r2] at r1; cases r1) e1, hd, hf⟩
      · cases e'
    · rw [if_neg hkj] at e'
      obtain ⟨es0, m0, e1, e2, r⟩ := H.insA j y e'
      have hj : j < W.ni := by rw [H.ni]; exact (List.getElem?_eq_some_iff.mp e').1
      obtain ⟨s1, s2⟩ := H.iaR j hj
      exact ⟨es0, m0, kp _ _ (fun q => by rw [q, r2] at s1; cases s1) e1, kp _ _ (fun q => by rw [q, r2] at s2; cases s2; exact hkj rfl) e2, r⟩
  · obtain ⟨h1, h2, vs, m0, h3, h4⟩ := H.lstA g hg q hq
    exact ⟨h1, h2, vs, m0, kp _ _ (fun z => by rw [z, r2] at h2; cases h2) h3, h4⟩
theorem Ext.change {own : Addr → Prop} {W : Wd} {s : Shared} {a : Addr} {h' : Heap} {tk : Nat} (hm : W.Mut a) (hs : Heap.SameBut a s.heap h') (ha : ∃ o, h'.get? a = some o) : Ext own W s W { s with heap := h', toks := tk } :=
  ⟨Le.refl W, fun b o e => by
      rcases Classical.em (b = a) with q | q
      · subst q; exact ha
      · exact ⟨o, hs.extBut b o q e⟩,
    fun _ _ _ e => e, fun b o hb _ e => hs.extBut b o (fun q => hb (q ▸ hm)) e, rfl, rfl⟩
theorem FrV.change {p : Pl} {W : Wd} {loc : List AV} {h h' : Heap} {a : Addr} (F : FrV c p W loc h) (hm : W.Mut a) (hs : Heap.SameBut a h h') : FrV c p W loc h' :=
  F.grow fun b o hb e => hs.extBut b o (fun q => by
    subst q
    rcases hb with hb | ⟨x, hb⟩
    · unfold Wd.Mut at hm; rw [hb, F.roleL] at hm; exact hm
    · unfold Wd.Mut at hm; rw [(F.roleC x b hb).1] at hm; exact hm) e
theorem put_ok (G : Gd c) (C : Cls c) {p : Pl} {W0 : Wd} {f : Fd} {o val : Value} {x v : AV} (ho : VR W0 o x) (hv : VR W0 val v) : Ok c p W0 (setAttr o (fkey f) val) (fun _ _ _ => True) (putM f x v) := by
  intro W st s hle I b st' e Q E hQ
  cases ho.mono hle with
  | ins k hk =>
    simp only [putM] at e
    split at e
    · rename_i i hi
      cases e
      obtain ⟨es, m, J, r⟩ := I.hr.instAt hi
      obtain ⟨v0, hl, _⟩ := r.get f
      have hm : W.Mut (W.da k) := by unfold Wd.Mut; rw [(I.hr.iaR k hk).2]; trivial
      have r' := r.put f (hv.mono hle) (PyData.keyHash c.w.params (fkey f)) (.str (fkey f) (s.toks + 1))
      refine set_raw C (I.hr.inK G) J (C.fields f) (by rw [hl]; rfl) (by rw [r'.len]; decide) fun h' hd hs => ?_
      exact hQ W () _ (Ext.change hm hs ⟨_, hd⟩) ⟨I.hr.dct ⟨i, hi⟩ hd hs r', I.fr.change hm hs⟩ trivial
    · cases e
  | _ => cases e
theorem ImplE.attr (G : Gd c) (C : Cls c) {o : Expr} {pos : Pos} {f : Fd} {g : Cm AV} (h : ImplE c n sx o g) (hb : ∀ env t, attributeBase o (fkey f) env t = t := by intro _ _; rfl) : ImplE c n sx (.Attribute o (fkey f) pos) (bd g (attrM f)) := by
  intro p hsx hr W0 W st s hle I b st' e Q E hQ
  obtain ⟨x, st1, e1, e2⟩ := bd_some e
  refine Attribute_any_ (h p hsx hr W W st s (Le.refl _) I x st1 e1 _ E fun W1 v s1 x1 I1 r1 => ?_) (by rw [arm_eval_Attribute, hb])
  exact attr_ok G C r1 W1 st1 s1 (Le.refl _) I1 b st' e2 Q E fun W2 v s2 x2 I2 r2 => hQ W2 v s2 (x1.trans x2) I2 r2
theorem ImplA.attr (G : Gd c) (C : Cls c) {o : Expr} {pos : Pos} {f : Fd} {g : Cm AV} (h : ImplE c n sx o g) : ImplA c n sx (.Attribute o (fkey f) pos) (fun v => bd g fun x => putM f x v) := by
  intro p hsx hr W0 val v hv W st s hle I b st' e Q E hQ
  obtain ⟨x, st1, e1, e2⟩ := bd_some e
  show wpAny _ _ (do
    let ov ← holding [val] (eval o p.env)
    standAt pos.atName
    holding [val, ov] (setAttr ov (fkey f) val)
    release [val, ov] []) Q E s
  refine wpAny_bind (wpAny_holding (h p hsx hr W W st s (Le.refl _) I x st1 e1 _ E fun W1 ov s1 x1 I1 r1 => ?_))
  refine wpAny_bind (wpAny_standAt (wpAny_bind (wpAny_holding ?_)))
  refine put_ok G C r1 ((hv.mono hle).mono x1.le) W1 st1 s1 (Le.refl _) I1 b st' e2 _ E fun W2 u s2 x2 I2 r2 => ?_
  exact wpAny_release (hQ W2 _ s2 (x1.trans x2) I2 trivial)
noncomputable def getF (f : Fd) : List AV → Cm AV := fun xs => match xs with
  | [o] => attrM f o
  | _ => no
noncomputable def setF (f : Fd) : List AV → Cm AV := fun xs => match xs with
  | [o, v] => bd (putM f o v) fun _ => pu .none
  | _ => no
theorem attrM_spec {f : Fd} {o v : AV} {st st' : AS} (h : attrM f o st = some (v, st')) : ∃ k i, o = .ins k ∧ st.ins[k]? = some i ∧ v = i.get f ∧ st' = st := by
  cases o <;> simp only [attrM, no] at h <;> try cases h
  split at h
  · rename_i i hi; cases h; exact ⟨_, i, rfl, hi, rfl, rfl⟩
  · cases h
theorem putM_spec {f : Fd} {o v : AV} {st st' : AS} {u : Unit} (h : putM f o v st = some (u, st')) : ∃ k i, o = .ins k ∧ st.ins[k]? = some i ∧ st' = { st with ins := st.ins.set k (i.put v f) } := by
  cases o <;> simp only [putM, no] at h <;> try cases h
  split at h
  · rename_i i hi; cases h; exact ⟨_, i, rfl, hi, rfl⟩
  · cases h
theorem frz0_nil (v : AV) : frz0 [] v = v := by cases v <;> rfl
theorem frzV_nil (v : AV) : frzV [] v = v := by
  cases v with
  | tup vs =>
    simp only [frzV]
    congr 1
    induction vs with
    | nil => rfl
    | cons a r ih => rw [List.map_cons, frz0_nil, ih]
  | _ => rfl
theorem getter_ok (G : Gd c) (C : Cls c) {fa : Addr} {fd : FuncData} {x : Str} {f : Fd} {p1 p2 p3 : Pos} (D : FnIs c fa fd [.Return (some (.Attribute (.Name x p1) (fkey f) p2)) p3] [x] []) (hd : (x == ("__debug__" : Str)) = false) : ImplF c (n + 1) fa (getF f) := by
  refine (fn_ok (n := n) G D (ImplS.cons (ImplS1.ret (ImplE.attr G C (ImplE.name (i := 0) rfl hd))) ImplS.nil)).sub fun xs st b st' e => ?_
  unfold getF at e
  split at e
  · rename_i o
    obtain ⟨k, i, rfl, hi, rfl, rfl⟩ := attrM_spec e
    simp [runFn, runFnG, thenM, retM, bd, var, attrM, pu, endFn, hi, frzV_nil]
  · cases e
theorem VR.notU {W : Wd} {v : Value} {x : AV} (h : VR W v x) : x ≠ .unb := by intro q; subst q; cases h
theorem setter_ok (G : Gd c) (C : Cls c) {fa : Addr} {fd : FuncData} {x y : Str} {f : Fd} {p1 p2 p3 p4 : Pos} (D : FnIs c fa fd [.Assign [.Attribute (.Name x p1) (fkey f) p2] (.Name y p3) p4] [x, y] [])
    (hd : (x == ("__debug__" : Str)) = false) (hd' : (y == ("__debug__" : Str)) = false) : ImplF c (n + 1) fa (setF f) := by
  intro A W st s hr H vs xs hv v st' e R hR
  refine fn_ok (n := n) G D (ImplS.cons (ImplS1.assign (ImplE.name (i := 1) rfl hd') (ImplA.attr G C (ImplE.name (i := 0) rfl hd))) ImplS.nil) A W st s hr H vs xs hv v st' ?_ R hR
  unfold setF at e
  split at e
  · rename_i o w
    obtain ⟨u, st2, e3, e4⟩ := bd_some e
    cases e4
    obtain ⟨k, i, rfl, hi, rfl⟩ := putM_spec e3
    have hw : w ≠ .unb := by
      cases hv with
      | cons _ h2 =>
        cases h2 with
        | cons h3 _ => exact h3.notU
    have w1 : ∀ st : AS, st.loc[1]? = some w → var 1 st = some (w, st) := fun st q => var_get q hw
    have w0 : ∀ st : AS, st.loc[0]? = some (.ins k) → var 0 st = some (.ins k, st) := fun st q => var_get q nofun
    simp [runFn, runFnG, thenM, asgM, bd, w1, w0, putM, pu, endFn, hi, frzV_nil]
  · cases e
structure MethIs (c : Cx) (m : Str) (fa : Addr) : Prop where
  find : findIn c.K (.ref c.C) m = some (some (.ref fa))
  typ : typeIn c.K (.ref fa) = some (.type "function")
  fn : ∃ oc od fd osl, c.K.lookup fa = some ⟨oc, od, .func fd, osl⟩
  other : ∀ f : Fd, (fkey f == m) = false
theorem FieldsAre.miss {W : Wd} {es : List DictEntry} {i : Ins} (h : FieldsAre W es i) {m : Str} (hm : ∀ f : Fd, (fkey f == m) = false) : PySem.W.getL m es = some .none := by
  cases h with
  | mk a b c d e => simp only [PySem.W.getL, List.find?, Value.isStr, hm, List.any_cons, List.any_nil, DictEntry.refKey]; rfl
noncomputable def methM (o : Cm AV) (args : Cm (List AV)) (F : List AV → Cm AV) : Cm AV := bd o fun x => match x with
  | .ins k => bd args fun ys => callM F (.ins k :: ys)
  | _ => no
theorem ImplE.meth (G : Gd c) (C : Cls c) {o : Expr} {m : Str} {apos pos : Pos} {es : List Expr} {fa : Addr} {fo : Cm AV} {fs : Cm (List AV)} {F : List AV → Cm AV} (M : MethIs c m fa) (h0 : ImplE c n sx o fo) (h1 : ImplEs c n sx es fs) (h2 : ImplF c n fa F)
    (hb : ∀ env t, attributeBase o m env t = t := by intro _ _; rfl) (hp : es.all plainX = true := by rfl) (hl : (apos.endLine == pos.line) = true := by rfl) (hfew : decide (es.length < 30) = true := by rfl) :
    ImplE c n sx (.Call (.Attribute o m apos) es [] pos) (methM fo fs F) := by
  intro p hsx hr W0 W st s hle I b st' e Q E hQ
  obtain ⟨x, st1, e1, e2⟩ := bd_some e
  obtain ⟨oc, od, fd, osl, hK⟩ := M.fn
  rw [arm_eval_Call, hb]
  refine wpAny_bind (h0 p hsx hr W W st s (Le.refl _) I x st1 e1 _ E fun W1 ov s1 x1 I1 r1 => wpAny_bind (wpAny_standAt ?_))
  cases r1 with
  | ins k hk =>
    obtain ⟨ys, st2, e3, e4⟩ := bd_some e2
    have hform : methodCallForm (es.length + ([] : List Keyword).length) (backTo pos (starEach es p.env)) (backToKw pos (keywordEach [] p.env)) = true := by
      unfold methodCallForm
      have h1 : (backTo pos (starEach es p.env)).all (fun x => !x.1) = true := by
        have := any_false (env := p.env) (pos := pos) hp
        rw [List.all_eq_not_any_not]; simpa using this
      rw [h1]
      show (true && true && decide (es.length + 0 + 0 < 30)) = true
      simpa using hfew
    have hpos : methodCallPos true o p.env apos pos = pure pos := by unfold methodCallPos; simp [hl]
    unfold methodCall
    rw [hform]
    have hi : ∃ i, st1.ins[k]? = some i := by
      have : k < st1.ins.length := by rw [← I1.hr.ni]; exact hk
      exact ⟨_, List.getElem?_eq_getElem this⟩
    obtain ⟨i, hi⟩ := hi
    obtain ⟨ess, mm, J, r⟩ := I1.hr.instAt hi
    refine wpAny_bind (wpAny_holding ?_)
    show wpAny _ _ (getMethod (.ref (W1.ia k)) m _) _ _ _
    refine method_fn (I1.hr.inK G) J C.ga C.gat M.find M.typ (by show (lookIn m (dictOf ess mm)).map _ = _; rw [lookIn_dict, r.miss M.other]; rfl) ?_
    refine wpAny_bind (wpAny_of_eq hpos ?_)
    refine Calls.callWith_function (o := ⟨oc, od, .func fd, osl⟩) (fd := fd) (evalArgs_row hp ?_)
    refine h1 p hsx hr W1 pos W1 st1 s1 (Le.refl _) I1 ys st2 e3 _ E fun W2 vs s2 x2 I2 r2 => ?_
    refine ⟨⟨I2.hr.keep _ _ (G.inK _ _ hK), rfl⟩, ?_⟩
    refine h2.call p hr W2 _ _ (.cons ((VR.ins k hk).mono x2.le) r2) W2 st2 s2 (Le.refl _) I2 b st' e4 Q E fun W3 v s3 x3 I3 r3 => hQ W3 v s3 ((x1.trans x2).trans x3) I3 r3
  | _ => cases e2
noncomputable def blank (v : AV) : Ins := ⟨v, .none, .none, .none, .none⟩
noncomputable def newM : List AV → Cm AV := fun xs st => match xs with
  | [] => some (.ins st.ins.length, { st with ins := st.ins ++ [blank .none] })
  | [v] => some (.ins st.ins.length, { st with ins := st.ins ++ [blank v] })
  | _ => .none
noncomputable def Wd.addIns (W : Wd) (x d : Addr) : Wd :=
  { W with role := fun b => if b = x then .ins W.ni else if b = d then .dct W.ni else W.role b, ia := fun k => if k = W.ni then x else W.ia k, da := fun k => if k = W.ni then d else W.da k, ni := W.ni + 1 }
theorem Wd.addIns_other {W : Wd} {x d b : Addr} (h1 : b ≠ x) (h2 : b ≠ d) : (W.addIns x d).role b = W.role b := by
  unfold Wd.addIns; simp [h1, h2]
theorem Le.addIns {W : Wd} {x d : Addr} (hx : W.role x = .oth) (hd : W.role d = .oth) : Le W (W.addIns x d) where
  ni := Nat.le_succ _
  nl := Nat.le_refl _
  ia := fun k hk => if_neg (Nat.ne_of_lt hk)
  da := fun k hk => if_neg (Nat.ne_of_lt hk)
  la := fun _ _ => rfl
  frz := fun a o e => by
    rw [Wd.addIns_other]; exact e
    · intro q; rw [q, hx] at e; cases e
    · intro q; rw [q, hd] at e; cases e
theorem HR.addIns {W : Wd} {st : AS} {h : Heap} {x d : Addr} {es : List DictEntry} {m : Nat} {i : Ins} (H : HR c W st h) (hxd : x ≠ d) (hx : W.role x = .oth) (hd : W.role d = .oth) (bx : c.h0.get? x = .none) (bd' : c.h0.get? d = .none)
    (gx : h.get? x = some (instObj c.C d)) (gd : h.get? d = some (dictOf es m)) (hf : FieldsAre W es i) : HR c (W.addIns x d) { st with ins := st.ins ++ [i] } h := by
  have L := Le.addIns hx hd
  have ne : ∀ b, W.role b ≠ .oth → (W.addIns x d).role b = W.role b := fun b hb => Wd.addIns_other (fun q => hb (q ▸ hx)) (fun q => hb (q ▸ hd))
  have rx : (W.addIns x d).role x = .ins W.ni := by unfold Wd.addIns; simp
  have rd : (W.addIns x d).role d = .dct W.ni := by unfold Wd.addIns; simp [Ne.symm hxd]
  refine ⟨H.keep, fun b hb => ?_, fun b => ?_, fun b o e => ?_, ?_, H.nl, fun k hk => ?_, fun k y e => ?_, fun g hg p hp => ?_, H.nodup⟩
  · by_cases h1 : b = x
    · rw [h1]; exact bx
    · by_cases h2 : b = d
      · rw [h2]; exact bd'
      · refine H.mutA b ?_; unfold Wd.Mut at hb ⊢; rwa [Wd.addIns_other h1 h2] at hb
  · by_cases h1 : b = x
    · rw [h1]; exact .inr ⟨_, gx⟩
    · by_cases h2 : b = d
      · rw [h2]; exact .inr ⟨_, gd⟩
      · rw [Wd.addIns_other h1 h2]; exact H.lt b
  · by_cases h1 : b = x
    · rw [h1, rx] at e; cases e
    · by_cases h2 : b = d
      · rw [h2, rd] at e; cases e
      · rw [Wd.addIns_other h1 h2] at e; exact H.frz b o e
  · show W.ni + 1 = (st.ins ++ [i]).length
    rw [List.length_append, H.ni]; rfl
  · by_cases hk' : k = W.ni
    · subst hk'
      have e1 : (W.addIns x d).ia W.ni = x := if_pos rfl
      have e2 : (W.addIns x d).da W.ni = d := if_pos rfl
      rw [e1, e2]; exact ⟨rx, rd⟩
    · have hlt : k < W.ni := by have : k < W.ni + 1 := hk; omega
      rw [L.ia k hlt, L.da k hlt]
      obtain ⟨r1, r2⟩ := H.iaR k hlt
      exact ⟨(ne _ (by rw [r1]; intro q; cases q)).trans r1, (ne _ (by rw [r2]; intro q; cases q)).trans r2⟩
  · have e' : (st.ins ++ [i])[k]? = some y := e
    by_cases hlt : k < st.ins.length
    · rw [List.getElem?_append_left hlt] at e'
      obtain ⟨es0, m0, e1, e2, r⟩ := H.insA k y e'
      rw [L.ia k (by rw [H.ni]; exact hlt), L.da k (by rw [H.ni]; exact hlt)]
      exact ⟨es0, m0, e1, e2, r.mono L⟩
    · have hk' : k = W.ni := by
        rw [List.getElem?_append_right (by omega)] at e'
        have : k - st.ins.length < 1 := (List.getElem?_eq_some_iff.mp e').1
        rw [H.ni]; omega
      subst hk'
      have e1 : (W.addIns x d).ia W.ni = x := if_pos rfl
      have e2 : (W.addIns x d).da W.ni = d := if_pos rfl
      rw [H.ni, List.getElem?_append_right (Nat.le_refl _), Nat.sub_self] at e'
      cases e'
      rw [e1, e2]
      exact ⟨es, m, gx, gd, hf.mono L⟩
  · obtain ⟨h1, h2, vs, m0, h3, h4⟩ := H.lstA g hg p hp
    exact ⟨h1, (ne (W.la p.1) (by rw [h2]; intro q; cases q)).trans h2, vs, m0, h3, h4.mono L⟩
end
end Mine

namespace Mine

section
variable {c : Cx} {n : Nat} {sx : Sx}

structure InitIs (c : Cx) (fa : Addr) (fd : FuncData) (body : List Stmt) (slf sysid : Str) : Prop where
  find : findIn c.K (.ref c.C) "__init__" = some (some (.ref fa))
  typ : typeIn c.K (.ref fa) = some (.type "function")
  at_ : ∃ oc od osl, c.K.lookup fa = some ⟨oc, od, .func fd, osl⟩
  bodyIs : fd.body = .stmts body
  code : codeIn c.K fd.code fd.qualname = true
  co : fd.scope.isCoroutine = false
  gen : fd.scope.isGenerator = false
  kind : fd.scope.kind = .function
  cell : ∀ x ∈ fd.scope.names, x.2 ≠ .cell
  bind1 : ∀ S x, peek c.K S (bindArgs fd ⟨[x], []⟩) = some [(slf, x), (sysid, .none)]
  bind2 : ∀ S x v, peek c.K S (bindArgs fd ⟨[x, v], []⟩) = some [(slf, x), (sysid, v)]
  k1 : fd.scope.names.lookup slf = some .local
  k2 : fd.scope.names.lookup sysid = some .local
  ne : slf ≠ sysid
  d1 : (slf == ("__debug__" : Str)) = false
  d2 : (sysid == ("__debug__" : Str)) = false
  shape : ∃ p1 p2 p3 p4 p5 p6 p7 p8 p9 p10 p11 p12 p13 p14 p15 p16 p17 p18 p19 p20 k2 k3 k4 k5, body = [
    .Assign [.Attribute (.Name slf p1) (fkey .sys) p2] (.Name sysid p3) p4,
    .Assign [.Attribute (.Name slf p5) (fkey .pub) p6] (.Constant .none k2 p7) p8,
    .Assign [.Attribute (.Name slf p9) (fkey .enc) p10] (.Constant .none k3 p11) p12,
    .Assign [.Attribute (.Name slf p13) (fkey .byt) p14] (.Constant .none k4 p15) p16,
    .Assign [.Attribute (.Name slf p17) (fkey .chr) p18] (.Constant .none k5 p19) p20]
noncomputable def InitAt (s1 : Shared) (d : Addr) (es : List DictEntry) (s : Shared) : Prop := ∃ h tk m, s = { s1 with heap := h, toks := tk } ∧ h.get? d = some (dictOf es m) ∧ Heap.SameBut d s1.heap h
theorem InitAt.step (C : Cls c) {A : Around} {E : Value → Shared → Prop} {s1 s : Shared} {x d : Addr} {env : Env} {m : Str → Option Value} {es : List DictEntry} {self : Str} {f : Fd} {value : Expr} {val : Value} {p1 p2 p3 : Pos} {Q : Flow → Shared → Prop}
    (X : c.K.In s1.heap) (hxd : x ≠ d) (hx : s1.heap.get? x = some (instObj c.C d)) (hK : c.K.lookup d = .none) (hk : env.scope.kind = .function) (hself : env.kindOf self = some .local) (hns : s1.heap.Ns env.locals m) (hL : env.locals ≠ d) (hm : m self = some (.ref x))
    (hd : (self == ("__debug__" : Str)) = false) (hsw : swapsWith value (some (.Attribute (.Name self p1) (fkey f) p2)) p3.line env = pure false)
    (J : InitAt s1 d es s) (hg : PySem.W.getL (fkey f) es = some .none) (hz : es.length ≤ 900)
    (hv : ∀ s, InitAt s1 d es s → ∀ Q' : Value → Shared → Prop, (∀ s', InitAt s1 d es s' → Q' val s') → wpAny (model c.prog c.w) A (eval value env) Q' E s)
    (h : ∀ hsh t s', InitAt s1 d (PySem.W.putL (fkey f) hsh (.str (fkey f) t) val es) s' → Q .next s') :
    wpAny (model c.prog c.w) A (exec (.Assign [.Attribute (.Name self p1) (fkey f) p2] value p3) env) Q E s := by
  refine plainObj_wpAny_Assign_Attribute (hv s J _ fun s2 J2 => ?_) hsw
  obtain ⟨h2, tk2, m2, rfl, hd2, hs2⟩ := J2
  refine wpAny_Name (wpAny_loadName_local hk hself (hns.sameBut hs2 hL) hm ?_) hd
  have X2 : c.K.In h2 := fun a o e => hs2.extBut a o (fun q => by rw [q, hK] at e; cases e) (X a o e)
  have I2 : InstAt h2 x (instObj c.C d) c.C (some (dictOf es m2)) := ⟨hs2.extBut _ _ hxd hx, rfl, rfl, hd2⟩
  have len : ∀ (hsh : Int) (key v : Value) (l : List DictEntry), (PySem.W.putL (fkey f) hsh key v l).length ≤ l.length + 1 := by
    intro hsh key v l
    induction l with
    | nil => simp [PySem.W.putL]
    | cons a r ih => simp only [PySem.W.putL]; split <;> simp <;> omega
  refine set_raw (s := { s1 with heap := h2, toks := tk2 }) C X2 I2 (C.fields f) (by rw [hg]; rfl) (Nat.le_trans (len ..) (by omega)) fun h' hd' hs' => ?_
  exact h _ _ _ ⟨h', _, _, rfl, hd', hs2.trans hs'⟩
theorem init_ok (G : Gd c) (C : Cls c) {fa : Addr} {fd : FuncData} {body : List Stmt} {self sysid : Str} (D : InitIs c fa fd body self sysid) {A : Around} (hr : A.depth < recursionLimit) {s : Shared} {x d : Addr} {args : List Value} {val : Value}
    (hargs : (args = [.ref x] ∧ val = .none) ∨ args = [.ref x, val]) (hkeep : ∀ a o, c.h0.get? a = some o → s.heap.get? a = some o) (hxd : x ≠ d) (hx : s.heap.get? x = some (instObj c.C d)) (hd : s.heap.get? d = some (dictOf [] 0)) (hd0 : c.h0.get? d = .none) {R : Result → Shared → Prop}
    (h : ∀ s' h1 t1 t2 t3 t4 t5 u1 u2 u3 u4 u5 m, s'.gens = s.gens → s'.os = s.os → (∀ b o, b ≠ d → s.heap.get? b = some o → s'.heap.get? b = some o) →
      s'.heap.get? d = some (dictOf [⟨h1, .str (fkey .sys) t1, val⟩, ⟨u1, .str (fkey .pub) t2, .none⟩, ⟨u2, .str (fkey .enc) t3, .none⟩, ⟨u3, .str (fkey .byt) t4, .none⟩, ⟨u4, .str (fkey .chr) t5, .none⟩] m) → u5 = 0 → R (.ok (.ret .none)) s') :
    codeAny (model c.prog c.w) A (.call (.ref fa) ⟨args, []⟩) R s := by
  obtain ⟨oc, od, osl, hK⟩ := D.at_
  have X : c.K.In s.heap := fun a o e => hkeep _ _ (G.inK a o e)
  have hKd : c.K.lookup d = .none := by
    cases e : c.K.lookup d with
    | none => rfl
    | some o => rw [G.inK _ _ e] at hd0; cases hd0
  have hb : BindsTo s fd ⟨args, []⟩ [(self, .ref x), (sysid, val)] := by
    rcases hargs with ⟨rfl, rfl⟩ | rfl
    · exact kp_binds X fun S => D.bind1 S _
    · exact kp_binds X fun S => D.bind2 S _ _
  refine codeAny_call_def hr (X _ _ hK) rfl (G.nolimit.keeps hkeep) (codeRec_of X D.code) D.bodyIs hb D.cell (fun y hy => ?_) (fun h1 hns hk1 => ?_) D.co D.gen D.kind
  · rcases List.mem_cons.mp hy with rfl | hy
    · exact D.k1
    · rcases List.mem_cons.mp hy with rfl | hy
      · exact D.k2
      · cases hy
  · obtain ⟨p1, p2, p3, p4, p5, p6, p7, p8, p9, p10, p11, p12, p13, p14, p15, p16, p17, p18, p19, p20, k2, k3, k4, k5, rfl⟩ := D.shape
    have m1 : ([(self, Value.ref x), (sysid, val)].reverse.lookup self) = some (.ref x) := by
      have : (self == sysid) = false := by simpa using D.ne
      simp [List.lookup_cons, this]
    have m2 : ([(self, Value.ref x), (sysid, val)].reverse.lookup sysid) = some val := by simp [List.lookup_cons]
    have hL : s.heap.objs.size ≠ d := fun q => Nat.lt_irrefl _ (q ▸ Heap.lt_size hd)
    let s1 : Shared := { s with heap := h1, toks := s.toks + 2 }
    have X1 : c.K.In s1.heap := fun a o e => hk1 _ _ (X a o e)
    have J0 : InitAt s1 d [] s1 := ⟨h1, _, 0, rfl, hk1 _ _ hd, Heap.SameBut.refl ..⟩
    have st : ∀ (f : Fd) (value : Expr) (v : Value) (q1 q2 q3 : Pos) (es : List DictEntry) (s2 : Shared) (Q : Flow → Shared → Prop), InitAt s1 d es s2 → PySem.W.getL (fkey f) es = some .none → es.length ≤ 900 →
        (swapsWith value (some (.Attribute (.Name self q1) (fkey f) q2)) q3.line (callEnv fd s.heap.objs.size fa) = pure false) →
        (∀ s3, InitAt s1 d es s3 → ∀ Q' : Value → Shared → Prop, (∀ s', InitAt s1 d es s' → Q' v s') → wpAny (model c.prog c.w) (A.deeper (callEnv fd s.heap.objs.size fa)) (eval value (callEnv fd s.heap.objs.size fa)) Q' (fun _ _ => False) s3) →
        (∀ hsh t s', InitAt s1 d (PySem.W.putL (fkey f) hsh (.str (fkey f) t) v es) s' → Q .next s') →
        wpAny (model c.prog c.w) (A.deeper (callEnv fd s.heap.objs.size fa)) (exec (.Assign [.Attribute (.Name self q1) (fkey f) q2] value q3) (callEnv fd s.heap.objs.size fa)) Q (fun _ _ => False) s2 :=
      fun f value v q1 q2 q3 es s2 Q J hg hz hsw hv hq => InitAt.step (env := callEnv fd s.heap.objs.size fa) C X1 hxd (hk1 _ _ hx) hKd D.kind D.k1 hns hL m1 D.d1 hsw J hg hz hv hq
    have none_v : ∀ (k : Nat) (q : Pos) (es : List DictEntry) (s3 : Shared), InitAt s1 d es s3 → ∀ Q' : Value → Shared → Prop, (∀ s', InitAt s1 d es s' → Q' .none s') → wpAny (model c.prog c.w) (A.deeper (callEnv fd s.heap.objs.size fa)) (eval (.Constant .none k q) (callEnv fd s.heap.objs.size fa)) Q' (fun _ _ => False) s3 :=
      fun k q es s3 J Q' hq => wpAny_Constant_none (hq s3 J)
    refine wpAny_noRaise ?_
    refine wpAny_execs_cons (st .sys _ val _ _ _ [] s1 _ J0 rfl (by decide) rfl (fun s3 J Q' hq => ?_) fun g1 t1 s2 J2 => ?_)
    · obtain ⟨h3, tk3, m3, rfl, e1, e2⟩ := J
      exact wpAny_Name (wpAny_loadName_local (env := callEnv fd s.heap.objs.size fa) D.kind D.k2 (hns.sameBut e2 hL) m2 (hq _ ⟨h3, tk3, m3, rfl, e1, e2⟩)) D.d2
    dsimp only
    refine wpAny_execs_cons (st .pub _ .none _ _ _ _ s2 _ J2 (by simp only [PySem.W.getL, PySem.W.putL, Value.isStr, fkey_is]; rfl) (by simp [PySem.W.putL]) rfl (none_v _ _ _) fun g2 t2 s3 J3 => ?_)
    dsimp only
    refine wpAny_execs_cons (st .enc _ .none _ _ _ _ s3 _ J3 (by simp only [PySem.W.getL, PySem.W.putL, Value.isStr, fkey_is]; rfl) (by simp only [PySem.W.putL, Value.isStr, fkey_is]; first | (show 2 ≤ 900; decide) | (show 3 ≤ 900; decide) | (show 4 ≤ 900; decide)) rfl (none_v _ _ _) fun g3 t3 s4 J4 => ?_)
    dsimp only
    refine wpAny_execs_cons (st .byt _ .none _ _ _ _ s4 _ J4 (by simp only [PySem.W.getL, PySem.W.putL, Value.isStr, fkey_is]; rfl) (by simp only [PySem.W.putL, Value.isStr, fkey_is]; first | (show 2 ≤ 900; decide) | (show 3 ≤ 900; decide) | (show 4 ≤ 900; decide)) rfl (none_v _ _ _) fun g4 t4 s5 J5 => ?_)
    dsimp only
    refine wpAny_execs_cons (st .chr _ .none _ _ _ _ s5 _ J5 (by simp only [PySem.W.getL, PySem.W.putL, Value.isStr, fkey_is]; rfl) (by simp only [PySem.W.putL, Value.isStr, fkey_is]; first | (show 2 ≤ 900; decide) | (show 3 ≤ 900; decide) | (show 4 ≤ 900; decide)) rfl (none_v _ _ _) fun g5 t5 s6 J6 => ?_)
    dsimp only
    refine wpAny_execs_nil ?_
    simp only [PySem.W.putL, Value.isStr, fkey_is] at J6
    obtain ⟨h6, tk6, m6, rfl, e1, e2⟩ := J6
    exact h _ g1 t1 t2 t3 t4 t5 g2 g3 g4 g5 0 m6 rfl rfl (fun b o hb e => e2.extBut b o hb (hk1 b o e)) e1 rfl
theorem new_ok (G : Gd c) (C : Cls c) {fa : Addr} {fd : FuncData} {body : List Stmt} {self sysid : Str} (D : InitIs c fa fd body self sysid) : OkCall c (n + 1) (.ref c.C) newM := by
  intro p hr W0 vs xs hv W st s hle I b st' e Q E hQ
  have X := I.hr.inK G
  obtain ⟨hh, g, dr, t, os⟩ := s
  have hv' := hv.mono hle
  have main : ∀ (args : List Value) (val : Value) (v : AV), args = vs → VR W val v → (∀ y : Addr, (Value.ref y :: args = [.ref y] ∧ val = .none) ∨ Value.ref y :: args = [.ref y, val]) → some (AV.ins st.ins.length, { st with ins := st.ins ++ [blank v] }) = some (b, st') →
      wpAny (model c.prog c.w) p.A (call (.ref c.C) vs) Q E ⟨hh, g, dr, t, os⟩ := by
    intro args val v hargs hval hsh e'
    cases e'
    subst hargs
    refine wpAny_call (make_core (makes_of X C.makes) (looks_findIn X D.find) (fun self => bind_fn X self D.typ) (.inl rfl) ?_)
    have nd : hh.get? hh.objs.size = .none := get_none_of_ge (Nat.le_refl _)
    have nx : hh.get? (hh.objs.size + 1) = .none := get_none_of_ge (Nat.le_succ _)
    have hk : ∀ b o, hh.get? b = some o → ((hh.push emptyDict).push (instObj c.C hh.objs.size)).get? b = some o := fun b o e => Heap.get?_push_of_some _ (Heap.get?_push_of_some _ e)
    have gx : ((hh.push emptyDict).push (instObj c.C hh.objs.size)).get? (hh.objs.size + 1) = some (instObj c.C hh.objs.size) := by
      have := Heap.get?_push_size (hh.push emptyDict) (o := instObj c.C hh.objs.size) rfl
      rwa [Heap.size_push] at this
    have gd : ((hh.push emptyDict).push (instObj c.C hh.objs.size)).get? hh.objs.size = some (dictOf [] 0) := Heap.get?_push_of_some _ (Heap.get?_push_size _ rfl)
    refine init_ok G C D (by rw [depth_under_make]; have := hr.2.1; unfold recursionLimit; omega) (x := hh.objs.size + 1) (d := hh.objs.size) (val := val) (hsh _) (fun a o q => hk a o (I.hr.keep a o q)) (Nat.ne_of_gt (Nat.lt_succ_self _)) gx gd (I.hr.base_none nd) ?_
    intro s' h1 t1 t2 t3 t4 t5 u1 u2 u3 u4 u5 m hg ho hkeep hd _
    refine ⟨rfl, ?_⟩
    have kk : ∀ b o, hh.get? b = some o → s'.heap.get? b = some o := fun b o q => hkeep b o (fun z => by rw [z, nd] at q; cases q) (hk b o q)
    have rx := I.hr.oth_of_none nx
    have rd := I.hr.oth_of_none nd
    have I' : Inv c p W st s' := I.keeps kk
    have hf : FieldsAre W _ (blank v) := FieldsAre.mk (h1 := h1) (h2 := u1) (h3 := u2) (h4 := u3) (h5 := u4) (t1 := t1) (t2 := t2) (t3 := t3) (t4 := t4) (t5 := t5) (i := blank v) hval .none .none .none .none
    have H := I'.hr.addIns (x := hh.objs.size + 1) (d := hh.objs.size) (Nat.ne_of_gt (Nat.lt_succ_self _)) rx rd (I.hr.base_none nx) (I.hr.base_none nd) (hkeep _ _ (Nat.ne_of_gt (Nat.lt_succ_self _)) gx) hd hf
    have hlocne : ∀ a, (∃ o, hh.get? a = some o) → (W.addIns (hh.objs.size + 1) hh.objs.size).role a = W.role a := fun a ⟨o, q⟩ => Wd.addIns_other (fun z => by rw [z, nx] at q; cases q) (fun z => by rw [z, nd] at q; cases q)
    refine hQ (W.addIns (hh.objs.size + 1) hh.objs.size) _ s' ⟨Le.addIns rx rd, fun a o q => ⟨o, kk a o q⟩, fun a o q z => (hlocne a ⟨o, q⟩).trans z, fun a o _ _ q => kk a o q, hg, ho⟩ ⟨H, I'.fr.mono (Le.addIns rx rd) ?_ ?_⟩ ?_
    · obtain ⟨ml, ⟨o, es, ep, q, _⟩, _⟩ := I.fr.ns
      exact (hlocne _ ⟨o, q⟩).trans I.fr.roleL
    · intro y a q
      obtain ⟨v', o, z, _⟩ := I.fr.cells y a q
      exact (hlocne _ ⟨o, z⟩).trans (I.fr.roleC y a q).1
    · have e1 : (W.addIns (hh.objs.size + 1) hh.objs.size).ia st.ins.length = hh.objs.size + 1 := by rw [← I.hr.ni]; exact if_pos rfl
      have := VR.ins (W := W.addIns (hh.objs.size + 1) hh.objs.size) st.ins.length (by rw [← I.hr.ni]; exact Nat.lt_succ_self _)
      rwa [e1] at this
  unfold newM at e
  split at e
  · cases hv'; exact main [] .none .none rfl .none (fun y => .inl ⟨rfl, rfl⟩) e
  · rename_i v
    cases hv' with
    | cons h1 h2 => cases h2; exact main [_] _ _ rfl h1 (fun y => .inr rfl) e
  · cases e
theorem ImplE.new (G : Gd c) (C : Cls c) {fa : Addr} {fd : FuncData} {body : List Stmt} {self sysid : Str} (D : InitIs c fa fd body self sysid) {x : Str} {p0 pos : Pos} {es : List Expr} {fs : Cm (List AV)} (hx : sx.sc.names.lookup x = some .globalImplicit) (hg : c.Glob x (.ref c.C))
    (h1 : ImplEs c (n + 1) sx es fs) (hd : (x == ("__debug__" : Str)) = false := by decide) (hp : es.all plainX = true := by rfl) : ImplE c (n + 1) sx (.Call (.Name x p0) es [] pos) (bd fs newM) := by
  intro p hsx hr W0 W st s hle I b st' e Q E hQ
  obtain ⟨xs, st1, e1, e2⟩ := bd_some e
  refine Call_ (load_glob G I (by rw [hsx]; exact hx) hg hd ?_)
  have fin : ∀ W1 vs s1, Ext p.Own W s W1 s1 → Inv c p W1 st1 s1 → VRs W1 vs xs → wpAny (model c.prog c.w) p.A (call (.ref c.C) vs) Q E s1 := fun W1 vs s1 x1 I1 r1 =>
    new_ok G C D p hr W1 vs xs r1 W1 st1 s1 (Le.refl _) I1 b st' e2 Q E fun W2 v s2 x2 I2 r2 => hQ W2 v s2 (x1.trans x2) I2 r2
  cases es with
  | nil =>
    have h := h1 p hsx hr W pos W st s (Le.refl _) I xs st1 e1
    refine callWith_K0 (I.hr.inK G) C.keep ?_
    have h' := h (fun vs s1 => vs = [] ∧ s1 = s → wpAny (model c.prog c.w) p.A (call (.ref c.C) ([] ++ [])) Q E s) (fun _ _ => False) (fun W1 vs s1 x1 I1 r1 hh => by obtain ⟨h1, h2⟩ := hh; subst h1; rw [h2] at x1 I1; exact fin W1 [] s x1 I1 r1)
    intro Γ pp hΓ
    exact (h' Γ pp hΓ) ⟨rfl, rfl⟩ Γ pp hΓ
  | cons e0 r0 =>
    have he : plainX e0 = true := (Bool.and_eq_true_iff.mp (List.all_cons ▸ hp)).1
    refine callWith_K (G.inK) C.keep (h1 p hsx hr W pos W st s (Le.refl _) I xs st1 e1 _ E fun W1 vs s1 x1 I1 r1 => ⟨I1.hr.inK G, ?_⟩) (star_plain he) (any_false (Bool.and_eq_true_iff.mp (List.all_cons ▸ hp)).2)
    exact fin W1 vs s1 x1 I1 r1
end
end Mine

namespace Mine

theorem lookL_none {k : Nat} : ∀ {g : List (Nat × List AV)}, lookL k g = .none → ∀ p ∈ g, p.1 ≠ k
  | [], _, _, h => by cases h
  | (j, xs) :: r, h, p, hp => by
    simp only [lookL] at h
    split at h
    · cases h
    · rename_i q
      rcases List.mem_cons.mp hp with rfl | hp
      · exact fun e => q e.symm
      · exact lookL_none h p hp
theorem getL1_mem {k : Nat} {xs : List AV} : ∀ {l : LH}, getL1 k l = some xs → ∃ g ∈ l, (k, xs) ∈ g
  | [], h => by cases h
  | g :: r, h => by
    simp only [getL1] at h
    split at h
    · rename_i ys e; cases h; exact ⟨g, List.mem_cons_self, lookL_mem e⟩
    · obtain ⟨g', h1, h2⟩ := getL1_mem h; exact ⟨g', List.mem_cons_of_mem _ h1, h2⟩
theorem putSeg_fst {k : Nat} {ys : List AV} : ∀ g : List (Nat × List AV), (putSeg k ys g).map (·.1) = g.map (·.1)
  | [] => rfl
  | (j, xs) :: r => by
    simp only [putSeg]
    split
    · rfl
    · rw [List.map_cons, List.map_cons, putSeg_fst r]
theorem putL1_fst {k : Nat} {ys : List AV} : ∀ l : LH, (putL1 k ys l).flatten.map (·.1) = l.flatten.map (·.1)
  | [] => rfl
  | g :: r => by
    simp only [putL1]
    split
    · rw [List.flatten_cons, List.flatten_cons, List.map_append, List.map_append, putSeg_fst]
    · rw [List.flatten_cons, List.flatten_cons, List.map_append, List.map_append, putL1_fst r]
theorem putSeg_mem {k : Nat} {ys : List AV} {p : Nat × List AV} : ∀ {g : List (Nat × List AV)}, (g.map (·.1)).Nodup → p ∈ putSeg k ys g → p = (k, ys) ∨ (p ∈ g ∧ p.1 ≠ k)
  | [], _, h => by cases h
  | (j, xs) :: r, nd, h => by
    rw [List.map_cons, List.nodup_cons] at nd
    simp only [putSeg] at h
    split at h
    · rename_i q
      subst q
      rcases List.mem_cons.mp h with h | h
      · exact .inl h
      · exact .inr ⟨List.mem_cons_of_mem _ h, fun e => nd.1 (e ▸ List.mem_map.mpr ⟨p, h, rfl⟩)⟩
    · rename_i q
      rcases List.mem_cons.mp h with h | h
      · subst h; exact .inr ⟨List.mem_cons_self, fun e => q e.symm⟩
      · rcases putSeg_mem nd.2 h with h | ⟨h1, h2⟩
        · exact .inl h
        · exact .inr ⟨List.mem_cons_of_mem _ h1, h2⟩
theorem putL1_mem {k : Nat} {ys : List AV} {p : Nat × List AV} : ∀ {l : LH}, (l.flatten.map (·.1)).Nodup → p ∈ (putL1 k ys l).flatten → p = (k, ys) ∨ (p ∈ l.flatten ∧ p.1 ≠ k)
  | [], _, h => by cases h
  | g :: r, nd, h => by
    rw [List.flatten_cons, List.map_append, List.nodup_append] at nd
    simp only [putL1] at h
    split at h
    · rename_i zs hz
      rw [List.flatten_cons, List.mem_append] at h
      rcases h with h | h
      · rcases putSeg_mem nd.1 h with h | ⟨h1, h2⟩
        · exact .inl h
        · exact .inr ⟨by rw [List.flatten_cons, List.mem_append]; exact .inl h1, h2⟩
      · exact .inr ⟨by rw [List.flatten_cons, List.mem_append]; exact .inr h, fun e => nd.2.2 k (List.mem_map.mpr ⟨_, lookL_mem hz, rfl⟩) p.1 (List.mem_map.mpr ⟨p, h, rfl⟩) e.symm⟩
    · rename_i hz
      rw [List.flatten_cons, List.mem_append] at h
      rcases h with h | h
      · exact .inr ⟨by rw [List.flatten_cons, List.mem_append]; exact .inl h, lookL_none hz p h⟩
      · rcases putL1_mem nd.2.1 h with h | ⟨h1, h2⟩
        · exact .inl h
        · exact .inr ⟨by rw [List.flatten_cons, List.mem_append]; exact .inr h1, h2⟩
theorem pushL1_mem {k : Nat} {xs : List AV} {p : Nat × List AV} : ∀ {l : LH}, p ∈ (pushL1 k xs l).flatten → p = (k, xs) ∨ p ∈ l.flatten
  | [], h => by simp [pushL1] at h; exact .inl h
  | g :: r, h => by
    simp only [pushL1, List.flatten_cons, List.cons_append, List.mem_cons, List.mem_append] at h ⊢
    exact h
theorem pushL1_fst {k : Nat} {xs : List AV} : ∀ l : LH, (pushL1 k xs l).flatten.map (·.1) = k :: l.flatten.map (·.1)
  | [] => rfl
  | g :: r => by simp only [pushL1, List.flatten_cons, List.cons_append, List.map_cons]
section
variable {c : Cx} {n : Nat} {sx : Sx}

theorem HR.lstA' {W : Wd} {st : AS} {h : Heap} (H : HR c W st h) {p : Nat × List AV} (hp : p ∈ st.lst.flatten) : p.1 < W.nl ∧ W.role (W.la p.1) = .lob p.1 ∧ ∃ vs n, h.get? (W.la p.1) = some (listOf vs.toArray n) ∧ VRs W vs p.2 := by
  obtain ⟨g, hg, hp⟩ := List.mem_flatten.mp hp
  exact H.lstA g hg p hp
theorem HR.lobAt {W : Wd} {st : AS} {h : Heap} (H : HR c W st h) {k : Nat} {xs : List AV} (e : getL1 k st.lst = some xs) : k < W.nl ∧ W.role (W.la k) = .lob k ∧ ∃ vs n, h.get? (W.la k) = some (listOf vs.toArray n) ∧ VRs W vs xs := by
  obtain ⟨g, hg, hp⟩ := getL1_mem e
  exact H.lstA g hg _ hp
theorem HR.updLob {W : Wd} {st : AS} {h h' : Heap} {k m : Nat} {xs ys : List AV} {vs : List Value} (H : HR c W st h) (e : getL1 k st.lst = some xs) (hd : h'.get? (W.la k) = some (listOf vs.toArray m)) (hs : Heap.SameBut (W.la k) h h') (hv : VRs W vs ys) :
    HR c W { st with lst := putL1 k ys st.lst } h' := by
  obtain ⟨r0, r2, _⟩ := H.lobAt e
  have hm : W.Mut (W.la k) := by unfold Wd.Mut; rw [r2]; trivial
  have kp : ∀ a o, a ≠ W.la k → h.get? a = some o → h'.get? a = some o := fun a o ha e => hs.extBut a o ha e
  refine ⟨fun a o e => kp a o (fun q => ?_) (H.keep a o e), H.mutA, fun a => ?_, fun a o e => kp a o (fun q => ?_) (H.frz a o e), H.ni, H.nl, H.iaR, fun j y e => ?_, fun g hg p hp => ?_, ?_⟩
  · rw [q, H.mutA _ hm] at e; cases e
  · rcases Classical.em (a = W.la k) with q | q
    · subst q; exact .inr ⟨_, hd⟩
    · exact (H.lt a).imp id fun ⟨o, z⟩ => ⟨o, kp a o q z⟩
  · rw [q, r2] at e; cases e
  · obtain ⟨es0, m0, e1, e2, r⟩ := H.insA j y e
    have hj : j < W.ni := by rw [H.ni]; exact (List.getElem?_eq_some_iff.mp e).1
    obtain ⟨s1, s2⟩ := H.iaR j hj
    exact ⟨es0, m0, kp _ _ (fun q => by rw [q, r2] at s1; cases s1) e1, kp _ _ (fun q => by rw [q, r2] at s2; cases s2) e2, r⟩
  · rcases putL1_mem H.nodup (List.mem_flatten.mpr ⟨g, hg, hp⟩) with q | ⟨q1, q2⟩
    · subst q; exact ⟨r0, r2, vs, m, hd, hv⟩
    · obtain ⟨h1, h2, us, m0, h3, h4⟩ := H.lstA' q1
      exact ⟨h1, h2, us, m0, kp _ _ (fun z => by rw [z, r2] at h2; cases h2; exact q2 rfl) h3, h4⟩
  · show ((putL1 k ys st.lst).flatten.map (·.1)).Nodup
    rw [putL1_fst]; exact H.nodup
theorem lob_change {p : Pl} {W : Wd} {st : AS} {s : Shared} {h' : Heap} {k m tk : Nat} {xs ys : List AV} {vs : List Value} (I : Inv c p W st s) (e : getL1 k st.lst = some xs) (hd : h'.get? (W.la k) = some (listOf vs.toArray m)) (hs : Heap.SameBut (W.la k) s.heap h') (hv : VRs W vs ys) :
    Inv c p W { st with lst := putL1 k ys st.lst } { s with heap := h', toks := tk } ∧ Ext p.Own W s W { s with heap := h', toks := tk } := by
  obtain ⟨_, r2, _⟩ := I.hr.lobAt e
  have hm : W.Mut (W.la k) := by unfold Wd.Mut; rw [r2]; trivial
  exact ⟨⟨I.hr.updLob e hd hs hv, I.fr.change hm hs⟩, Ext.change hm hs ⟨_, hd⟩⟩
noncomputable def Wd.addLob (W : Wd) (a : Addr) : Wd :=
  { W with role := fun b => if b = a then .lob W.nl else W.role b, la := fun k => if k = W.nl then a else W.la k, nl := W.nl + 1 }
theorem Le.addLob {W : Wd} {a : Addr} (h : W.role a = .oth) : Le W (W.addLob a) where
  ni := Nat.le_refl _
  nl := Nat.le_succ _
  ia := fun _ _ => rfl
  da := fun _ _ => rfl
  la := fun k hk => if_neg (Nat.ne_of_lt hk)
  frz := fun b o e => by
    show (if b = a then Role.lob W.nl else W.role b) = _
    rw [if_neg]; exact e
    intro q; rw [q, h] at e; cases e
theorem HR.addLob {W : Wd} {st : AS} {h : Heap} {a : Addr} {vs : List Value} {m : Nat} {xs : List AV} (H : HR c W st h) (hr : W.role a = .oth) (hb : c.h0.get? a = .none) (ha : h.get? a = some (listOf vs.toArray m)) (hv : VRs W vs xs) :
    HR c (W.addLob a) { st with lst := pushL1 st.nl xs st.lst, nl := st.nl + 1 } h := by
  have L := Le.addLob hr
  have ne : ∀ b, W.role b ≠ .oth → (W.addLob a).role b = W.role b := fun b hb => if_neg (show b ≠ a from fun q => hb (q ▸ hr))
  have rs : (W.addLob a).role a = .lob W.nl := if_pos rfl
  have ot : ∀ b, b ≠ a → (W.addLob a).role b = W.role b := fun b hb => if_neg hb
  refine ⟨H.keep, fun b hm => ?_, fun b => ?_, fun b o e => ?_, H.ni, congrArg (· + 1) H.nl, fun k hk => ?_, fun k i e => ?_, fun g hg p hp => ?_, ?_⟩
  · by_cases q : b = a
    · rw [q]; exact hb
    · refine H.mutA b ?_; unfold Wd.Mut at hm ⊢; rwa [ot b q] at hm
  · by_cases q : b = a
    · rw [q]; exact .inr ⟨_, ha⟩
    · rw [ot b q]; exact H.lt b
  · by_cases q : b = a
    · rw [q, rs] at e; cases e
    · rw [ot b q] at e; exact H.frz b o e
  · obtain ⟨r1, r2⟩ := H.iaR k hk
    exact ⟨(ne (W.ia k) (by rw [r1]; intro q; cases q)).trans r1, (ne (W.da k) (by rw [r2]; intro q; cases q)).trans r2⟩
  · obtain ⟨es, m0, e1, e2, r⟩ := H.insA k i e
    exact ⟨es, m0, e1, e2, r.mono L⟩
  · rcases pushL1_mem (List.mem_flatten.mpr ⟨g, hg, hp⟩) with q | q
    · subst q
      have e1 : (W.addLob a).la st.nl = a := by rw [← H.nl]; exact if_pos rfl
      rw [e1]
      refine ⟨?_, ?_, vs, m, ha, hv.mono L⟩
      · show st.nl < W.nl + 1; rw [H.nl]; exact Nat.lt_succ_self _
      · rw [rs, H.nl]
    · obtain ⟨h1, h2, us, m0, h3, h4⟩ := H.lstA' q
      have e1 : (W.addLob a).la p.1 = W.la p.1 := L.la _ h1
      rw [e1]
      exact ⟨Nat.lt_succ_of_lt h1, (ne _ (by rw [h2]; intro q; cases q)).trans h2, us, m0, h3, h4.mono L⟩
  · show ((pushL1 st.nl xs st.lst).flatten.map (·.1)).Nodup
    rw [pushL1_fst, List.nodup_cons]
    refine ⟨fun hm => ?_, H.nodup⟩
    obtain ⟨p, hp, e⟩ := List.mem_map.mp hm
    have := (H.lstA' hp).1
    rw [e, H.nl] at this
    exact Nat.lt_irrefl _ this
noncomputable def newLob (xs : List AV) : Cm AV := fun st => if xs.length ≤ 100000 then some (.lob st.nl, { st with lst := pushL1 st.nl xs st.lst, nl := st.nl + 1 }) else .none
theorem Inv.toLob {p : Pl} {W : Wd} {st : AS} {s s' : Shared} {a : Addr} {vs : List Value} {m : Nat} {xs : List AV} (I : Inv c p W st s) (hn : s.heap.get? a = .none) (k : ∀ b o, s.heap.get? b = some o → s'.heap.get? b = some o)
    (ha : s'.heap.get? a = some (listOf vs.toArray m)) (hv : VRs W vs xs) (hg : s'.gens = s.gens) (ho : s'.os = s.os) :
    Inv c p (W.addLob a) { st with lst := pushL1 st.nl xs st.lst, nl := st.nl + 1 } s' ∧ Ext p.Own W s (W.addLob a) s' ∧ VR (W.addLob a) (.ref a) (.lob st.nl) := by
  have hr := I.hr.oth_of_none hn
  have I' : Inv c p W st s' := I.keeps k
  have ot : ∀ b o, s.heap.get? b = some o → (W.addLob a).role b = W.role b := fun b o e => if_neg (show b ≠ a from fun q => by rw [q, hn] at e; cases e)
  refine ⟨⟨I'.hr.addLob hr (I.hr.base_none hn) ha hv, I'.fr.mono (Le.addLob hr) ?_ fun y b q => ?_⟩, ⟨Le.addLob hr, fun b o e => ⟨o, k b o e⟩, fun b o e z => (ot b o e).trans z, fun b o _ _ e => k b o e, hg, ho⟩, ?_⟩
  · obtain ⟨ml, ⟨o, es, ep, q, _⟩, _⟩ := I.fr.ns
    exact (ot _ o q).trans I.fr.roleL
  · obtain ⟨v', o, z, _⟩ := I.fr.cells y b q
    exact (ot _ o z).trans (I.fr.roleC y b q).1
  · have e1 : (W.addLob a).la st.nl = a := by rw [← I.hr.nl]; exact if_pos rfl
    have := VR.lob (W := W.addLob a) st.nl (by show st.nl < W.nl + 1; rw [I.hr.nl]; exact Nat.lt_succ_self _)
    rwa [e1] at this
theorem newLob_ok {p : Pl} {W0 : Wd} {vs : List Value} {xs : List AV} (h : VRs W0 vs xs) : Ok c p W0 (PySem.newList vs) VR (newLob xs) := by
  intro W st s hle I b st' e Q E hQ
  unfold newLob at e
  split at e
  · rename_i hsz
    cases e
    have hl := h.length
    refine wpAny_newObj_type ?_ (by show vs.toArray.size ≤ sizeLine; rw [List.size_toArray, sizeLine_eq]; omega)
    obtain ⟨I', x, r⟩ := I.toLob (s' := { s with heap := s.heap.push (listOf vs.toArray 0) }) (a := s.heap.objs.size) (get_none_of_ge (Nat.le_refl _)) (fun _ _ e => Heap.get?_push_of_some _ e) (Heap.get?_push_size _ rfl) (h.mono hle) rfl rfl
    exact hQ _ _ _ x I' r
  · cases e
theorem ImplE.listMut {es : List Expr} {pos : Pos} {f : Cm (List AV)} (h : ImplEs c n sx es f) : ImplE c n sx (.List es pos) (bd f newLob) := by
  intro p hsx hr W0 W st s hle I b st' e Q E hQ
  obtain ⟨xs, st1, e1, e2⟩ := bd_some e
  refine List_ (h p hsx hr W pos W st s (Le.refl _) I xs st1 e1 _ E fun W1 vs s1 x1 I1 r1 => ?_)
  exact newLob_ok r1 W1 st1 s1 (Le.refl _) I1 b st' e2 Q E fun W2 v s2 x2 I2 r2 => hQ W2 v s2 (x1.trans x2) I2 r2
noncomputable def itemsM : AV → Cm (List AV) := fun x st => match x with
  | .lst xs => some (xs, st)
  | .lob k => (match getL1 k st.lst with | some xs => some (xs, st) | .none => .none)
  | _ => .none
theorem items_at {p : Pl} {W : Wd} {st st' : AS} {s : Shared} (I : Inv c p W st s) {v : Value} {x : AV} {xs : List AV} (hv : VR W v x) (e : itemsM x st = some (xs, st')) :
    st' = st ∧ ∃ a vs m, v = .ref a ∧ s.heap.get? a = some (listOf vs.toArray m) ∧ VRs W vs xs := by
  cases hv with
  | lst h r => simp only [itemsM] at e; cases e; exact ⟨rfl, _, _, _, rfl, I.hr.frz _ _ h, r⟩
  | lob k hk =>
    simp only [itemsM] at e
    split at e
    · rename_i ys hy
      cases e
      obtain ⟨_, _, vs, m, h3, h4⟩ := I.hr.lobAt hy
      exact ⟨rfl, _, vs, m, rfl, h3, h4⟩
    · cases e
  | _ => simp only [itemsM] at e; cases e
end
end Mine

namespace Mine

section
variable {c : Cx} {n : Nat} {sx : Sx}

noncomputable def chkL (x : AV) : Cm Unit := fun st => match itemsM x st with
  | some _ => some ((), st)
  | .none => .none
noncomputable def OkMeth (c : Cx) (n : Nat) (id : String) (F : AV → List AV → Cm AV) : Prop := ∀ p : Pl, Room n p.A → ∀ W0 o x vs xs, VR W0 o x → VRs W0 vs xs → Ok c p W0 (call (.builtin id) (o :: vs)) VR (F x xs)
noncomputable def lmethM (fo : Cm AV) (fs : Cm (List AV)) (F : AV → List AV → Cm AV) : Cm AV := bd fo fun x => bd (chkL x) fun _ => bd fs fun ys => F x ys
theorem ImplE.lmeth {o : Expr} {m : Str} {id : String} {apos pos : Pos} {es : List Expr} {fo : Cm AV} {fs : Cm (List AV)} {F : AV → List AV → Cm AV} (slot : Slot "list" m id) (hty : typeOf (.builtin id) = pure (.type "method_descriptor"))
    (h0 : ImplE c n sx o fo) (h1 : ImplEs c n sx es fs) (h2 : OkMeth c n id F)
    (hb : ∀ env t, attributeBase o m env t = t := by intro _ _; rfl) (hp : es.all plainX = true := by rfl) (hl : (apos.endLine == pos.line) = true := by rfl) (hfew : decide (es.length < 30) = true := by rfl) :
    ImplE c n sx (.Call (.Attribute o m apos) es [] pos) (lmethM fo fs F) := by
  intro p hsx hr W0 W st s hle I b st' e Q E hQ
  obtain ⟨x, st1, e1, e2⟩ := bd_some e
  obtain ⟨u, st1', e3, e4⟩ := bd_some e2
  obtain ⟨ys, st2, e5, e6⟩ := bd_some e4
  rw [arm_eval_Call, hb]
  refine wpAny_bind (h0 p hsx hr W W st s (Le.refl _) I x st1 e1 _ E fun W1 ov s1 x1 I1 r1 => wpAny_bind (wpAny_standAt ?_))
  unfold chkL at e3
  split at e3
  · rename_i xs q
    cases e3
    obtain ⟨xs, st9⟩ := xs
    obtain ⟨_, a, vs, m0, rfl, ho, _⟩ := items_at I1 r1 q
    have hform : methodCallForm (es.length + ([] : List Keyword).length) (backTo pos (starEach es p.env)) (backToKw pos (keywordEach [] p.env)) = true := by
      unfold methodCallForm
      have h1 : (backTo pos (starEach es p.env)).all (fun x => !x.1) = true := by
        have := any_false (env := p.env) (pos := pos) hp
        rw [List.all_eq_not_any_not]; simpa using this
      rw [h1]
      show (true && true && decide (es.length + 0 + 0 < 30)) = true
      simpa using hfew
    have hpos : methodCallPos true o p.env apos pos = pure pos := by unfold methodCallPos; simp [hl]
    unfold methodCall
    rw [hform]
    refine wpAny_bind (wpAny_holding ?_)
    show wpAny _ _ (getMethod (.ref a) m _) _ _ _
    refine getMethod_builtin ⟨_, ho, rfl⟩ PySem.F.plainAttrs_list slot hty (fun a' e => by cases e; exact ⟨_, ho, rfl⟩) ?_
    refine wpAny_bind (wpAny_of_eq hpos ?_)
    refine Calls.callWith_builtin (any_false hp) (evalArgs_row hp ?_)
    refine h1 p hsx hr W1 pos W1 st1 s1 (Le.refl _) I1 ys st2 e5 _ E fun W2 ws s2 x2 I2 r2 => ?_
    exact h2 p hr W2 _ _ _ _ (r1.mono x2.le) r2 W2 st2 s2 (Le.refl _) I2 b st' e6 Q E fun W3 v s3 x3 I3 r3 => hQ W3 v s3 ((x1.trans x2).trans x3) I3 r3
  · cases e3
theorem upd_list {h : Heap} {a : Addr} {its : Array Value} {k : Nat} {f : Array Value → Array Value} (e : h.get? a = some (listOf its k)) : ∃ m, (h.update a (Obj.mapSeq f)).get? a = some (listOf (f its) m) :=
  ⟨_, Heap.get?_update_self _ e rfl⟩
noncomputable def appendM : AV → List AV → Cm AV := fun x ys st => match x, ys with
  | .lob k, [y] => (match getL1 k st.lst with
      | some xs => if xs.length ≤ 100000 then some (.none, { st with lst := putL1 k (xs ++ [y]) st.lst }) else .none
      | .none => .none)
  | _, _ => .none
theorem append_ok : OkMeth c n "list.append" appendM := by
  intro p hr W0 o x vs xs ho hvs W st s hle I b st' e Q E hQ
  cases ho.mono hle with
  | lob k hk =>
    cases hvs.mono hle with
    | nil => cases e
    | cons hy hr' =>
      cases hr' with
      | cons _ _ => cases e
      | nil =>
        simp only [appendM] at e
        split at e
        · rename_i zs hz
          split at e
          · rename_i hsz
            cases e
            obtain ⟨_, _, us, m, h3, h4⟩ := I.hr.lobAt hz
            have hl := h4.length
            refine call_meets PySem.F.slot_list_append ⟨_, h3, rfl⟩ PySem.F.entry_list_append (PySem.F.args_list_append_2 _ _) (list_append _ us.toArray m _ (by rw [List.size_toArray, sizeLine_eq]; omega)) ⟨h3, ?_⟩
            obtain ⟨m', e'⟩ := upd_list (f := fun z => z.push _) h3
            rw [List.push_toArray] at e'
            obtain ⟨I', x'⟩ := lob_change (tk := s.toks) I hz e' (Heap.SameBut.update ..) (h4.append (.one hy))
            exact hQ W _ _ x' I' .none
          · cases e
        · cases e
  | _ => cases e
noncomputable def extendM : AV → List AV → Cm AV := fun x ys st => match x, ys with
  | .lob k, [y] => (match getL1 k st.lst, itemsM y st with
      | some xs, some (zs, _) => if xs.length + zs.length ≤ 100000 then some (.none, { st with lst := putL1 k (xs ++ zs) st.lst }) else .none
      | _, _ => .none)
  | _, _ => .none
theorem extend_ok : OkMeth c n "list.extend" extendM := by
  intro p hr W0 o x vs xs ho hvs W st s hle I b st' e Q E hQ
  cases ho.mono hle with
  | lob k hk =>
    cases hvs.mono hle with
    | nil => cases e
    | cons hy hr' =>
      cases hr' with
      | cons _ _ => cases e
      | nil =>
        simp only [extendM] at e
        split at e
        · rename_i zs ws st2 hz hw
          split at e
          · rename_i hsz
            cases e
            obtain ⟨_, _, us, m, h3, h4⟩ := I.hr.lobAt hz
            obtain ⟨_, a, ts, m2, rfl, h5, h6⟩ := items_at I hy hw
            have hl := h4.length
            have hl2 := h6.length
            have hs' : us.toArray.size + ts.toArray.size ≤ sizeLine := by rw [List.size_toArray, List.size_toArray, sizeLine_eq]; omega
            refine call_meets PySem.F.slot_list_extend ⟨_, h3, rfl⟩ PySem.F.entry_list_extend (PySem.F.args_list_extend_2 _ _) (AutoSeq1.list_extend_list_list_0 _ us.toArray m a ts.toArray m2 (extend_door hs') (Nat.le_trans (Nat.le_add_right _ _) hs') (Nat.le_succ_of_le hs')) ⟨h3, h5, ?_⟩
            obtain ⟨m', e'⟩ := upd_list (f := fun z => z ++ ts.toArray) h3
            rw [show us.toArray ++ ts.toArray = (us ++ ts).toArray from by simp] at e'
            obtain ⟨I', x'⟩ := lob_change (tk := s.toks) I hz e' (Heap.SameBut.update ..) (h4.append h6)
            exact hQ W _ _ x' I' .none
          · cases e
        · cases e
  | _ => cases e
end
end Mine

namespace Mine

section
variable {c : Cx} {n : Nat} {sx : Sx}

noncomputable def idxM (xs : List AV) (i : Int) : Option AV := if 0 ≤ i then xs[i.toNat]? else if 0 ≤ i + xs.length then xs[(i + xs.length).toNat]? else .none
noncomputable def getItemM : AV → AV → Cm AV := fun o i st => match i with
  | .int i => (match o with
    | .tup xs => if xs.length ≤ 100000 then (match idxM xs i with | some v => some (v, st) | .none => .none) else .none
    | o => (match itemsM o st with
      | some (xs, _) => if xs.length ≤ 100000 then (match idxM xs i with | some v => some (v, st) | .none => .none) else .none
      | .none => .none))
  | _ => .none
theorem idx_seq {xs : List AV} {i : Int} {v : AV} (h : idxM xs i = some v) : ∃ j, seqIndex? i xs.length = some j ∧ xs[j]? = some v ∧ -(xs.length : Int) ≤ i ∧ i < xs.length := by
  unfold idxM at h
  split at h
  · rename_i h0
    have hlt : i.toNat < xs.length := (List.getElem?_eq_some_iff.mp h).1
    refine ⟨i.toNat, ?_, h, by omega, by omega⟩
    unfold seqIndex?
    simp only [show ¬ i < 0 from by omega, if_false]
    rw [if_pos (by simp; omega)]
  · rename_i h0
    split at h
    · rename_i h1
      have hlt : (i + xs.length).toNat < xs.length := (List.getElem?_eq_some_iff.mp h).1
      refine ⟨(i + xs.length).toNat, ?_, h, by omega, by omega⟩
      unfold seqIndex?
      simp only [show i < 0 from by omega, if_true]
      rw [if_pos (by simp; omega)]
    · cases h
theorem getList_wp {A : Around} {E : Value → Shared → Prop} {s : Shared} {W : Wd} {a : Addr} {vs : List Value} {m : Nat} {xs : List AV} {i : Int} {t : Tok} {v : AV} {Q : Value → Shared → Prop} (h : s.heap.get? a = some (listOf vs.toArray m)) (hv : VRs W vs xs) (hi : idxM xs i = some v) (hsz : xs.length ≤ 100000)
    (hQ : ∀ val, VR W val v → Q val s) : wpAny (model c.prog c.w) A (getItem (.ref a) (.int i t)) Q E s := by
  have hl := hv.length
  have L : s.heap.IsList a vs.toArray := ⟨_, h, rfl, _, rfl⟩
  unfold idxM at hi
  split at hi
  · rename_i h0
    obtain ⟨w, hw, r⟩ := hv.get hi
    have hlt : i.toNat < xs.length := (List.getElem?_eq_some_iff.mp hi).1
    exact wpAny_getItem_list L h0 (by omega) (by rw [List.getElem?_toArray]; exact hw) (hQ w r)
  · rename_i h0
    split at hi
    · rename_i h1
      obtain ⟨w, hw, r⟩ := hv.get hi
      refine wpAny_getItem_list_neg L (by omega) (by rw [List.size_toArray]; omega) (by omega) ?_ (hQ w r)
      rw [List.size_toArray, List.getElem?_toArray, hl]; exact hw
    · cases hi
theorem getItem_ok {p : Pl} {value slice : Expr} {W0 : Wd} {o i : Value} {x y : AV} (ho : VR W0 o x) (hi : VR W0 i y) (hs : ∀ o i, subscripted slice false o i = operate [o, i] (getItem o i)) : Ok c p W0 (subscriptTail value slice o i) VR (getItemM x y) := by
  intro W st s hle I b st' e Q E hQ
  cases hi with
  | int i t =>
    have lists : ∀ (e : (match itemsM x st with
      | some (xs, _) => if xs.length ≤ 100000 then (match idxM xs i with | some v => some (v, st) | .none => .none) else .none
      | .none => .none) = some (b, st')), wpAny (model c.prog c.w) p.A (subscriptTail value slice o (.int i t)) Q E s := by
      intro e
      split at e
      · rename_i xs q he
        split at e
        · rename_i hsz
          split at e
          · rename_i v hv
            cases e
            obtain ⟨_, a, vs, m, rfl, h3, h4⟩ := items_at I (ho.mono hle) he
            refine tail_any (T := "list") ⟨_, h3, rfl⟩ slot_list_getitem.lookup (getList_wp h3 h4 hv hsz fun val r => ?_) (hs _ _)
            exact hQ W val s (Ext.refl ..) I r
          · cases e
        · cases e
      · cases e
    cases ho.mono hle with
    | tup h1 t1 t2 h2 =>
      simp only [getItemM] at e
      split at e
      · rename_i hsz
        split at e
        · rename_i v hv
          cases e
          obtain ⟨j, hj, hx, q1, q2⟩ := idx_seq hv
          obtain ⟨w, hw, r⟩ := h2.get hx
          refine tail_any (T := "tuple") ⟨_, I.hr.frz _ _ h1, t1⟩ slot_tuple_getitem.lookup (getItem_tuple (I.hr.isTuple h1 t1 t2) (by omega) (by omega) (by rw [List.size_toArray, h2.length]; exact hj) (by rw [List.getElem?_toArray]; exact hw) ?_) (hs _ _)
          exact hQ W w s (Ext.refl ..) I r
        · cases e
      · cases e
    | _ => exact lists e
  | _ => cases e
noncomputable def notSlice : Expr → Bool
  | .Slice .. => false
  | _ => true
theorem sub_plain {slice : Expr} (h : notSlice slice = true) (o i : Value) : subscripted slice false o i = operate [o, i] (getItem o i) := by
  cases slice <;> first | rfl | cases h
theorem ImplE.item {value slice : Expr} {pos : Pos} {f g : Cm AV} (h1 : ImplE c n sx value f) (h2 : ImplE c n sx slice g) (hs : notSlice slice = true := by rfl) : ImplE c n sx (.Subscript value slice pos) (bin2 f g getItemM) := by
  intro p hsx hr W0 W st s hle I b st' e Q E hQ
  obtain ⟨x, st1, e1, e2⟩ := bd_some e
  obtain ⟨y, st2, e3, e4⟩ := bd_some e2
  refine Subscript_ (h1 p hsx hr W W st s (Le.refl _) I x st1 e1 _ E fun W1 a s1 x1 I1 r1 => ?_)
  refine h2 p hsx hr W1 W1 st1 s1 (Le.refl _) I1 y st2 e3 _ E fun W2 vb s2 x2 I2 r2 => ?_
  exact getItem_ok (r1.mono x2.le) r2 (sub_plain hs) W2 st2 s2 (Le.refl _) I2 b st' e4 Q E fun W3 v s3 x3 I3 r3 => hQ W3 v s3 ((x1.trans x2).trans x3) I3 r3
noncomputable def setItemM : AV → AV → AV → Cm Unit := fun o i v st => match i with
  | .int i => (match o with
    | .lob k => (match getL1 k st.lst with
      | some xs => if 0 ≤ i ∧ i < xs.length ∧ xs.length ≤ 100000 then some ((), { st with lst := putL1 k (xs.set i.toNat v) st.lst }) else .none
      | .none => .none)
    | _ => .none)
  | _ => .none
theorem setList_wp {A : Around} {E : Value → Shared → Prop} {s : Shared} {a : Addr} {vs : List Value} {m : Nat} {k : Int} {t : Tok} {v : Value} {Q : Unit → Shared → Prop} (h : s.heap.get? a = some (listOf vs.toArray m)) (h0 : 0 ≤ k) (h1 : k < vs.length) (hz : vs.length ≤ 100000)
    (hQ : ∀ h' m', h'.get? a = some (listOf (vs.set k.toNat v).toArray m') → Heap.SameBut a s.heap h' → Q () { s with heap := h' }) : wpAny (model c.prog c.w) A (setItem (.ref a) (.int k t) v) Q E s := by
  have L : s.heap.IsList a vs.toArray := ⟨_, h, rfl, _, rfl⟩
  have hfit : Builtin.List.listFitsIndex k = true := fitsIndex_of h0 (by omega)
  clear hz
  unfold setItem
  refine wpAny_holding (wpAny_bind (wpAny_sequenceKey L.typeIs (by decide) ?_))
  refine wpAny_bind (wpAny_callSpecial?_slot (name := Str.ofString "__setitem__") L.typeIs slot_list_setitem (wpAny_call_entry slot_list_setitem L.typeIs entry_list_setitem ?_ (args_list_setitem _ _ _)))
  show wpAny _ _ (Builtin.List.listSubscript? (.int k t) >>= _) _ _ s
  refine wpAny_bind (wpAny_listSubscript_int hfit ?_)
  clear hfit
  obtain ⟨j, rfl⟩ := Int.eq_ofNat_of_zero_le h0
  have hj : j < vs.toArray.size := by rw [List.size_toArray]; omega
  show wpAny _ _ ((seqItemAt a j >>= fun r => pure (r.map (j, ·))) >>= _) _ _ s
  refine wpAny_bind (wpAny_bind (wpAny_seqItemAt h rfl (wpAny_pure ?_)))
  rw [Array.getElem?_eq_getElem hj]
  show wpAny _ _ (setSeqItemAt a j v >>= _) _ _ s
  obtain ⟨m', e'⟩ := upd_list (f := fun z => z.setIfInBounds j v) h
  rw [List.setIfInBounds_toArray] at e'
  refine wpAny_bind (wpAny_setSeqItemAt h rfl ?_)
  first
    | exact wpAny_pure ⟨.none, rfl, wpAny_pure (hQ _ m' e' (Heap.SameBut.update ..))⟩
    | exact wpAny_bind (wpAny_pure (wpAny_pure ⟨.none, rfl, wpAny_pure (hQ _ m' e' (Heap.SameBut.update ..))⟩))
theorem setItem_ok {p : Pl} {W0 : Wd} {o i val : Value} {x y v : AV} (ho : VR W0 o x) (hi : VR W0 i y) (hv : VR W0 val v) : Ok c p W0 (setItem o i val) (fun _ _ _ => True) (setItemM x y v) := by
  intro W st s hle I b st' e Q E hQ
  cases hi with
  | int i t =>
    cases ho.mono hle with
    | lob k hk =>
      simp only [setItemM] at e
      split at e
      · rename_i xs hx
        split at e
        · rename_i hb
          cases e
          obtain ⟨h0, h1, hsz⟩ := hb
          obtain ⟨_, _, us, m, ⟨h3, h4⟩⟩ := I.hr.lobAt hx
          have hl := h4.length
          refine setList_wp h3 h0 (by omega) (by omega) fun h' m' e' hs => ?_
          obtain ⟨I', x'⟩ := lob_change (tk := s.toks) I hx e' hs (h4.set (hv.mono hle) i.toNat)
          exact hQ W _ _ x' I' trivial
        · cases e
      · cases e
    | _ => cases e
  | _ => cases e
theorem ImplA.item {o i : Expr} {pos : Pos} {f g : Cm AV} (h1 : ImplE c n sx o f) (h2 : ImplE c n sx i g) : ImplA c n sx (.Subscript o i pos) (fun v => bd f fun x => bd g fun y => setItemM x y v) := by
  intro p hsx hr W0 val v hv W st s hle I b st' e Q E hQ
  obtain ⟨x, st1, e1, e2⟩ := bd_some e
  obtain ⟨y, st2, e3, e4⟩ := bd_some e2
  rw [arm_assign_Subscript]
  refine wpAny_bind (wpAny_holding (h1 p hsx hr W W st s (Le.refl _) I x st1 e1 _ E fun W1 ov s1 x1 I1 r1 => ?_))
  refine wpAny_bind (wpAny_holding (h2 p hsx hr W1 W1 st1 s1 (Le.refl _) I1 y st2 e3 _ E fun W2 iv s2 x2 I2 r2 => ?_))
  refine wpAny_bind (wpAny_standAt (wpAny_bind (wpAny_holding ?_)))
  refine setItem_ok (r1.mono x2.le) r2 ((hv.mono hle).mono (x1.le.trans x2.le)) W2 st2 s2 (Le.refl _) I2 b st' e4 _ E fun W3 u s3 x3 I3 r3 => ?_
  exact wpAny_release (hQ W3 _ s3 ((x1.trans x2).trans x3) I3 trivial)
noncomputable def lenM : List AV → Cm AV := fun xs st => match xs with
  | [x] => (match itemsM x st with | some (ys, _) => if ys.length ≤ 100000 then some (.int ys.length, st) else .none | .none => .none)
  | _ => .none
theorem len_ok : OkCall c n (.builtin "len") lenM := by
  intro p hr W0 vs xs hv W st s hle I b st' e Q E hQ
  cases hv.mono hle with
  | nil => cases e
  | cons h1 h2 =>
    cases h2 with
    | cons _ _ => cases e
    | nil =>
      simp only [lenM] at e
      split at e
      · rename_i ys q he
        split at e
        · rename_i hsz
          cases e
          obtain ⟨_, a, us, m, rfl, h3, h4⟩ := items_at I h1 he
          have hl := h4.length
          refine len_list (items := us.toArray) ⟨_, h3, rfl, _, rfl⟩ (by rw [List.size_toArray]; omega) ?_
          rw [List.size_toArray, hl]
          exact hQ W _ _ ((Ext.refl ..).toks _) (I.toks _) (.int _ _)
        · cases e
      · cases e
noncomputable def items2M : AV → Cm (List AV) := fun x st => match x with
  | .lsb xs => some (xs, st)
  | x => itemsM x st
theorem items2_at {p : Pl} {W : Wd} {st st' : AS} {s : Shared} (I : Inv c p W st s) {v : Value} {x : AV} {xs : List AV} (hv : VR W v x) (e : items2M x st = some (xs, st')) :
    ∃ a vs, v = .ref a ∧ s.heap.IsList a (List.toArray vs) ∧ VRs W vs xs := by
  cases hv with
  | lsb h h1 h2 r => simp only [items2M] at e; cases e; exact ⟨_, _, rfl, ⟨_, I.hr.frz _ _ h, h1, _, h2⟩, r⟩
  | lst h r => obtain ⟨_, a, vs, m, e1, e2, e3⟩ := items_at I (.lst h r) e; exact ⟨a, vs, e1, ⟨_, e2, rfl, _, rfl⟩, e3⟩
  | lob k hk => obtain ⟨_, a, vs, m, e1, e2, e3⟩ := items_at I (.lob k hk) e; exact ⟨a, vs, e1, ⟨_, e2, rfl, _, rfl⟩, e3⟩
  | _ => simp only [items2M, itemsM] at e; cases e
noncomputable def addLM : AV → AV → Cm AV := fun x y st => match itemsM x st, items2M y st with
  | some (xs, _), some (ys, _) => if xs.length + ys.length ≤ 100000 then some (.lst (xs ++ ys), st) else .none
  | _, _ => .none
theorem addL_ok : OkBin c n .Add addLM := by
  intro p hr W0 a b x y ha hb W st s hle I v st' e Q E hQ
  unfold addLM at e
  split at e
  · rename_i xs q1 ys q2 h1 h2
    split at e
    · rename_i hsz
      cases e
      obtain ⟨_, l, vs, m, rfl, h3, h4⟩ := items_at I (ha.mono hle) h1
      obtain ⟨l2, ws, rfl, ⟨⟨cls2, dd2, data2, sl2⟩, ho2, hc2, n2, hd2⟩, h6⟩ := items2_at I (hb.mono hle) h2
      simp only at hc2 hd2
      subst hc2 hd2
      have e1 : vs.toArray ++ ws.toArray = (vs ++ ws).toArray := by simp
      have l1 := h4.length
      have l2 := h6.length
      refine concat_meets ⟨_, h3, rfl⟩ ⟨_, ho2, rfl⟩ noFill_list_add seq_list_add PySem.F.slot_list_add PySem.F.entry_list_add (PySem.F.args_list_add_2 _ _) (list_addW _ _ vs.toArray ws.toArray m n2 .none dd2 #[] sl2 (by rw [List.size_toArray, List.size_toArray, sizeLine_eq]; omega)) ⟨h3, ho2, ?_⟩
      rw [e1]
      obtain ⟨I', x'⟩ := I.pushFrz (listOf (vs ++ ws).toArray 0) s.toks
      exact hQ _ _ _ x' I' (.lst (n := 0) Wd.set_self ((h4.append h6).mono x'.le))
    · cases e
  · cases e
noncomputable def mulLM : AV → AV → Cm AV := fun x y st => match y with
  | .int k => (match itemsM x st with
    | some (xs, _) => if 0 ≤ k ∧ k ≤ 100000 ∧ xs.length * k.toNat ≤ 100000 then some (.lst (List.replicate k.toNat xs).flatten, st) else .none
    | .none => .none)
  | _ => .none
theorem VRs.flat {W : Wd} {vs : List Value} {xs : List AV} (h : VRs W vs xs) : ∀ k : Nat, VRs W (List.replicate k vs).flatten (List.replicate k xs).flatten
  | 0 => .nil
  | k + 1 => by rw [List.replicate_succ, List.replicate_succ, List.flatten_cons, List.flatten_cons]; exact h.append (h.flat k)
theorem mulL_ok : OkBin c n .Mult mulLM := by
  intro p hr W0 a b x y ha hb W st s hle I v st' e Q E hQ
  cases hb with
  | int k t =>
    simp only [mulLM] at e
    split at e
    · rename_i xs q1 h1
      split at e
      · rename_i hk
        cases e
        obtain ⟨_, l, vs, m, rfl, h3, h4⟩ := items_at I (ha.mono hle) h1
        have hl := h4.length
        obtain ⟨k0, k1, k2⟩ := hk
        have k3 : vs.length * k.toNat ≤ 100000 := by rw [hl]; exact k2
        have k4 : vs.toArray.size * k.toNat ≤ 100000 := by rw [List.size_toArray]; exact k3
        refine wpAny_binaryOp_repeat_ref (T := "list") (U := "int") (by decide) ⟨_, h3, rfl⟩ (fun s' => typeIs_int s' k t) noFill_list_mul F.fills_int_mul F.slot_int_rmul repeat_list F.slot_int_index.lookup
          (call_meets F.slot_int_rmul (typeIs_int s k t) F.entry_int_rmul (F.args_int_rmul_2 _ _) (int___rmul___int_list k t l vs.toArray m)
            ⟨h3, rfl, ⟨_, h3, rfl⟩, call_meets F.slot_list_mul ⟨_, h3, rfl⟩ F.entry_list_mul (F.args_list_mul_2 _ _)
              (AutoListH.list___mul___list_int_3 l vs.toArray m k t (by simp [Builtin.List.listFitsIndex]; omega) (by omega) (by simp [Builtin.List.listTooLong, sizeLine]; omega))
              ⟨h3, ?_⟩⟩)
        rw [listMul_foldl_if]
        obtain ⟨I', x'⟩ := I.pushFrz (listOf (List.replicate k.toNat vs).flatten.toArray 0) s.toks
        exact hQ _ _ _ x' I' (.lst (n := 0) Wd.set_self ((h4.flat _).mono x'.le))
      · cases e
    · cases e
  | _ => cases e
end
end Mine

namespace Mine

noncomputable def eqAll (f : AV → AV → Option Bool) : List AV → List AV → Option Bool
  | [], [] => some true
  | x :: xs, y :: ys => (match f x y with
      | some a => (match eqAll f xs ys with | some b => some (a && b) | .none => .none)
      | .none => .none)
  | _, _ => some false
noncomputable def eqF (st : AS) : Nat → AV → AV → Option Bool
  | 0, _, _ => .none
  | d + 1, .none, y => (match y with | .none => some true | .str _ => some false | .int _ => some false | .bool _ => some false | _ => .none)
  | d + 1, .bool a, y => (match y with | .bool b => some (a == b) | .none => some false | .str _ => some false | _ => .none)
  | d + 1, .int a, y => (match y with | .int b => some (a == b) | .none => some false | .str _ => some false | _ => .none)
  | d + 1, .str a, y => (match y with | .str b => some (a == b) | .none => some false | .int _ => some false | .bool _ => some false | _ => .none)
  | d + 1, .bytes a, y => (match y with | .bytes b => some (a.toList == b.toList) | _ => .none)
  | d + 1, .tup xs, y => (match y with | .tup ys => if xs.length = ys.length then eqAll (eqF st d) xs ys else .none | _ => .none)
  | d + 1, x, y => (match itemsM x st, itemsM y st with
      | some (xs, _), some (ys, _) => if xs.length = ys.length then eqAll (eqF st d) xs ys else some false
      | _, _ => .none)
theorem eqAll_idx {W : Wd} {f : AV → AV → Option Bool} {P : Value → Value → Bool → Prop} (hf : ∀ v w x y b, VR W v x → VR W w y → f x y = some b → P v w b) : ∀ {vs ws : List Value} {xs ys : List AV} {b : Bool}, VRs W vs xs → VRs W ws ys → eqAll f xs ys = some b → vs.length = ws.length →
    ∃ e : Nat → Bool, (∀ j (h1 : j < vs.length) (h2 : j < ws.length), P vs[j] ws[j] (e j)) ∧ (List.range vs.length).all e = b
  | _, _, _, _, b, .nil, .nil, h, _ => by cases h; exact ⟨fun _ => true, fun j h1 _ => absurd h1 (Nat.not_lt_zero _), rfl⟩
  | _, _, _, _, b, .nil, .cons _ _, _, hl => by cases hl
  | _, _, _, _, b, .cons _ _, .nil, _, hl => by cases hl
  | v :: vs, w :: ws, x :: xs, y :: ys, b, .cons a1 r1, .cons a2 r2, h, hl => by
    simp only [eqAll] at h
    split at h
    · rename_i a ha
      split at h
      · rename_i b' hb
        cases h
        obtain ⟨e, h1, h2⟩ := eqAll_idx hf r1 r2 hb (by simpa using hl)
        refine ⟨fun j => match j with | 0 => a | j + 1 => e j, fun j q1 q2 => ?_, ?_⟩
        · cases j with
          | zero => exact hf v w x y a a1 a2 ha
          | succ j => exact h1 j (by simpa using q1) (by simpa using q2)
        · rw [List.length_cons, List.range_succ_eq_map, List.all_cons, List.all_map]
          rw [← h2]; rfl
      · cases h
    · cases h
section
variable {c : Cx} {n : Nat} {sx : Sx}
open PySem.SeqAt

theorem rc_bytes {A : Around} {s : Shared} {a b : Array UInt8} {t u : Tok} : RcAt A s (.bytes a t) (.bytes b u) (a.toList == b.toList) := fun prog w E Q h => eq_bytes h
theorem eq_bytesAt {A : Around} {s : Shared} {a b : Array UInt8} {t u : Tok} : EqAt A s (.bytes a t) (.bytes b u) (a.toList == b.toList) := fun prog w E Q h => by
  unfold eqBool
  refine wpAny_holding ?_
  refine wpAny_ite_split (fun hab => ?_) (fun _ => ?_)
  · have e : a = b := by have := eq_of_beq hab; injection this
    subst e
    exact wpAny_bind (wpAny_rule (wpAny_pure (by simpa using h)))
  · exact wpAny_bind (rc_bytes prog w E _ (wpAny_truthy_bool h))
theorem eqF_list {d : Nat} {st : AS} {x y : AV} {b : Bool} (hx : ∀ a, x ≠ .none ∧ x ≠ .bool a) (h1 : ∀ a, x ≠ .int a) (h2 : ∀ a, x ≠ .str a) (h3 : ∀ a, x ≠ .bytes a) (h4 : ∀ a, x ≠ .tup a) (e : eqF st (d + 1) x y = some b) :
    ∃ xs ys q1 q2, itemsM x st = some (xs, q1) ∧ itemsM y st = some (ys, q2) ∧ (if xs.length = ys.length then eqAll (eqF st d) xs ys else some false) = some b := by
  have : eqF st (d + 1) x y = (match itemsM x st, itemsM y st with
      | some (xs, _), some (ys, _) => if xs.length = ys.length then eqAll (eqF st d) xs ys else some false
      | _, _ => .none) := by
    cases x <;> first | rfl | exact absurd rfl (hx true).1 | exact absurd rfl (hx _).2 | exact absurd rfl (h1 _) | exact absurd rfl (h2 _) | exact absurd rfl (h3 _) | exact absurd rfl (h4 _)
  rw [this] at e
  split at e
  · rename_i xs q1 ys q2 e1 e2; exact ⟨xs, ys, q1, q2, e1, e2, e⟩
  · cases e
theorem eqAll_self {W : Wd} {f : AV → AV → Option Bool} (hf : ∀ v x y b, VR W v x → VR W v y → f x y = some b → b = true) : ∀ {vs : List Value} {xs ys : List AV} {b : Bool}, VRs W vs xs → VRs W vs ys → eqAll f xs ys = some b → b = true
  | _, _, _, b, .nil, .nil, h => by cases h; rfl
  | v :: vs, x :: xs, y :: ys, b, .cons a1 r1, .cons a2 r2, h => by
    simp only [eqAll] at h
    split at h
    · rename_i a ha
      split at h
      · rename_i b' hb
        cases h
        rw [hf v x y a a1 a2 ha, eqAll_self hf r1 r2 hb]; rfl
      · cases h
    · cases h
theorem eqF_lists_self {p : Pl} {W : Wd} {st : AS} {s : Shared} (I : Inv c p W st s) {d : Nat} (ih : ∀ v x y b, VR W v x → VR W v y → eqF st d x y = some b → b = true) {v : Value} {x y : AV} {xs ys : List AV} {q1 q2 : AS} {b : Bool} (hx : VR W v x) (hy : VR W v y)
    (e1 : itemsM x st = some (xs, q1)) (e2 : itemsM y st = some (ys, q2)) (h : (if xs.length = ys.length then eqAll (eqF st d) xs ys else some false) = some b) : b = true := by
  obtain ⟨_, l1, us, m1, rfl, g1, r1⟩ := items_at I hx e1
  obtain ⟨_, l2, ts, m2, e, g2, r2⟩ := items_at I hy e2
  cases e
  rw [g1] at g2
  cases g2
  rw [if_pos (by rw [← r1.length, ← r2.length])] at h
  exact eqAll_self ih r1 r2 h
theorem eqF_self {p : Pl} {W : Wd} {st : AS} {s : Shared} (I : Inv c p W st s) : ∀ (d : Nat) (v : Value) (x y : AV) (b : Bool), VR W v x → VR W v y → eqF st d x y = some b → b = true
  | 0, _, _, _, _, _, _, h => by cases h
  | d + 1, v, x, y, b, hx, hy, h => by
    have ih := eqF_self I d
    have lists : (∀ a, x ≠ .none ∧ x ≠ .bool a) → (∀ a, x ≠ .int a) → (∀ a, x ≠ .str a) → (∀ a, x ≠ .bytes a) → (∀ a, x ≠ .tup a) → b = true := fun h0 h1 h2 h3 h4 => by
      obtain ⟨xs, ys, q1, q2, e1, e2, e3⟩ := eqF_list h0 h1 h2 h3 h4 h
      exact eqF_lists_self I ih hx hy e1 e2 e3
    cases x with
    | none =>
      obtain rfl := hx.inv_none
      cases y with
      | none => cases h; rfl
      | str _ => obtain ⟨_, q⟩ := hy.inv_str; cases q
      | int _ => obtain ⟨_, q⟩ := hy.inv_int; cases q
      | bool _ => cases hy.inv_bool
      | _ => cases h
    | bool a =>
      obtain rfl := hx.inv_bool
      cases y with
      | bool _ => cases h; cases hy.inv_bool; exact beq_self_eq_true _
      | none => cases hy.inv_none
      | str _ => obtain ⟨_, q⟩ := hy.inv_str; cases q
      | _ => cases h
    | int a =>
      obtain ⟨_, rfl⟩ := hx.inv_int
      cases y with
      | int _ => cases h; obtain ⟨_, q⟩ := hy.inv_int; cases q; exact beq_self_eq_true _
      | none => cases hy.inv_none
      | str _ => obtain ⟨_, q⟩ := hy.inv_str; cases q
      | _ => cases h
    | str a =>
      obtain ⟨_, rfl⟩ := hx.inv_str
      cases y with
      | str _ => cases h; obtain ⟨_, q⟩ := hy.inv_str; cases q; exact beq_self_eq_true _
      | none => cases hy.inv_none
      | int _ => obtain ⟨_, q⟩ := hy.inv_int; cases q
      | bool _ => cases hy.inv_bool
      | _ => cases h
    | bytes a =>
      obtain ⟨_, rfl⟩ := hx.inv_bytes
      cases y with
      | bytes _ => cases h; obtain ⟨_, q⟩ := hy.inv_bytes; cases q; exact beq_self_eq_true _
      | _ => cases h
    | tup xs =>
      cases hx with
      | tup e1 t1 t2 r1 =>
        cases hy with
        | tup e2 t3 t4 r2 =>
          rw [e1] at e2
          cases e2
          rw [t2] at t4
          cases t4
          simp only [eqF] at h
          rw [if_pos (by rw [← r1.length, ← r2.length])] at h
          exact eqAll_self ih r1 r2 h
        | _ => simp [eqF] at h
    | _ => exact lists (fun _ => ⟨nofun, nofun⟩) nofun nofun nofun nofun
theorem eqF_ok {p : Pl} {W : Wd} {st : AS} {s : Shared} (I : Inv c p W st s) : ∀ (d : Nat) {A : Around} {v w : Value} {x y : AV} {b : Bool}, A.units + d < cLine → VR W v x → VR W w y → eqF st d x y = some b →
    EqAt A s v w b ∧ RcAt A s v w b ∧ RcNeAt A s v w (!b)
  | 0, _, _, _, _, _, _, _, _, _, h => by cases h
  | d + 1, A, v, w, x, y, b, hu, hv, hw, h => by
    have ih : ∀ v w x y b, VR W v x → VR W w y → eqF st d x y = some b → EqAt A.in1 s v w b := fun v w x y b h1 h2 h3 => (eqF_ok I d (A := A.in1) (by show A.units + 1 + d < cLine; omega) h1 h2 h3).1
    have hu' : A.units < cLine := by omega
    have lists : ∀ {xs ys : List AV} {q1 q2 : AS} {b : Bool}, VR W v x → VR W w y → itemsM x st = some (xs, q1) → itemsM y st = some (ys, q2) → (if xs.length = ys.length then eqAll (eqF st d) xs ys else some false) = some b →
        EqAt A s v w b ∧ RcAt A s v w b ∧ RcNeAt A s v w (!b) := by
      intro xs ys q1 q2 b hv hw e1 e2 h
      have hself : v = w → b = true := fun q => by subst q; exact eqF_lists_self I (eqF_self I d) hv hw e1 e2 h
      obtain ⟨_, l1, us, m1, rfl, g1, r1⟩ := items_at I hv e1
      obtain ⟨_, l2, ts, m2, rfl, g2, r2⟩ := items_at I hw e2
      have L1 : s.heap.IsList l1 us.toArray := ⟨_, g1, rfl, _, rfl⟩
      have L2 : s.heap.IsList l2 ts.toArray := ⟨_, g2, rfl, _, rfl⟩
      split at h
      · rename_i hl
        have hl' : us.length = ts.length := by rw [r1.length, r2.length, hl]
        obtain ⟨e, he, hb⟩ := eqAll_idx ih r1 r2 h hl'
        have hsz : us.toArray.size = ts.toArray.size := by simp [hl']
        have he' : ∀ j (h1 : j < us.toArray.size) (h2 : j < ts.toArray.size), EqAt A.in1 s us.toArray[j] ts.toArray[j] (e j) := fun j h1 h2 => by
          rw [List.getElem_toArray, List.getElem_toArray]
          exact he j (by simpa using h1) (by simpa using h2)
        have R := RcAt.lists L1 L2 hsz hu' he'
        have N := RcNeAt.lists L1 L2 hsz hu' he'
        rw [List.size_toArray, hb] at R N
        refine ⟨?_, R, N⟩
        by_cases hne : l1 = l2
        · subst hne; rw [hself rfl]; exact EqAt.same _
        · exact EqAt.of_refs hne R
      · rename_i hl
        cases h
        have hsz : (us.toArray.size != ts.toArray.size) = true := by
          simp only [List.size_toArray, r1.length, r2.length, bne_iff_ne]; exact hl
        have hne : l1 ≠ l2 := fun q => by
          subst q; rw [g1] at g2; cases g2; simp at hsz
        exact ⟨EqAt.of_refs hne (RcAt.lists_lengths L1 L2 hsz hu'), RcAt.lists_lengths L1 L2 hsz hu', RcNeAt.lists_lengths L1 L2 hsz hu'⟩
    cases x with
    | none =>
      obtain rfl := hv.inv_none
      cases y with
      | none => cases h; obtain rfl := hw.inv_none; exact ⟨EqAt.same _, RcAt.none_none, RcNeAt.none_none⟩
      | str _ => cases h; obtain ⟨_, rfl⟩ := hw.inv_str; exact ⟨EqAt.none_str _ _, RcAt.none_str _ _, RcNeAt.none_str _ _⟩
      | int _ => cases h; obtain ⟨_, rfl⟩ := hw.inv_int; exact ⟨EqAt.none_int _ _, RcAt.none_int _ _, RcNeAt.none_int _ _⟩
      | bool _ => cases h; obtain rfl := hw.inv_bool; exact ⟨EqAt.none_bool _, RcAt.none_bool _, RcNeAt.none_bool _⟩
      | _ => cases h
    | bool a =>
      obtain rfl := hv.inv_bool
      cases y with
      | bool _ => cases h; obtain rfl := hw.inv_bool; exact ⟨EqAt.bool_bool _ _, RcAt.bool_bool _ _, RcNeAt.bool_bool _ _⟩
      | none => cases h; obtain rfl := hw.inv_none; exact ⟨EqAt.bool_none _, RcAt.bool_none _, RcNeAt.bool_none _⟩
      | str _ => cases h; obtain ⟨_, rfl⟩ := hw.inv_str; exact ⟨EqAt.bool_str _ _ _, RcAt.bool_str _ _ _, RcNeAt.bool_str _ _ _⟩
      | _ => cases h
    | int a =>
      obtain ⟨_, rfl⟩ := hv.inv_int
      cases y with
      | int _ => cases h; obtain ⟨_, rfl⟩ := hw.inv_int; exact ⟨EqAt.int_int _ _ _ _, RcAt.int_int _ _ _ _, RcNeAt.int_int _ _ _ _⟩
      | none => cases h; obtain rfl := hw.inv_none; exact ⟨EqAt.int_none _ _, RcAt.int_none _ _, RcNeAt.int_none _ _⟩
      | str _ => cases h; obtain ⟨_, rfl⟩ := hw.inv_str; exact ⟨EqAt.int_str _ _ _ _, RcAt.int_str _ _ _ _, RcNeAt.int_str _ _ _ _⟩
      | _ => cases h
    | str a =>
      obtain ⟨_, rfl⟩ := hv.inv_str
      cases y with
      | str _ => cases h; obtain ⟨_, rfl⟩ := hw.inv_str; exact ⟨EqAt.str_str _ _ _ _, RcAt.str_str _ _ _ _, RcNeAt.str_str _ _ _ _⟩
      | none => cases h; obtain rfl := hw.inv_none; exact ⟨EqAt.str_none _ _, RcAt.str_none _ _, RcNeAt.str_none _ _⟩
      | int _ => cases h; obtain ⟨_, rfl⟩ := hw.inv_int; exact ⟨EqAt.str_int _ _ _ _, RcAt.str_int _ _ _ _, RcNeAt.str_int _ _ _ _⟩
      | bool _ => cases h; obtain rfl := hw.inv_bool; exact ⟨EqAt.str_bool _ _ _, RcAt.str_bool _ _ _, RcNeAt.str_bool _ _ _⟩
      | _ => cases h
    | bytes a =>
      obtain ⟨_, rfl⟩ := hv.inv_bytes
      cases y with
      | bytes _ => cases h; obtain ⟨_, rfl⟩ := hw.inv_bytes; exact ⟨eq_bytesAt, rc_bytes, fun prog w E Q q => ne_bytes q⟩
      | _ => cases h
    | tup xs =>
      have hself : v = w → b = true := fun q => by subst q; exact eqF_self I (d + 1) v _ _ b hv hw h
      cases hv with
      | @tup l1 _ us k1 _ e1 t1 t2 r1 =>
        cases hw with
        | @tup l2 _ ts k2 ys e2 t3 t4 r2 =>
          simp only [eqF] at h
          split at h
          · rename_i hl
            have hl' : us.length = ts.length := by rw [r1.length, r2.length, hl]
            obtain ⟨e, he, hb⟩ := eqAll_idx ih r1 r2 h hl'
            have he' : ∀ j (h1 : j < us.toArray.size) (h2 : j < ts.toArray.size), EqAt A.in1 s us.toArray[j] ts.toArray[j] (e j) := fun j h1 h2 => by
              rw [List.getElem_toArray, List.getElem_toArray]
              exact he j (by simpa using h1) (by simpa using h2)
            have R := RcAt.tuples (I.hr.isTuple e1 t1 t2) (I.hr.isTuple e2 t3 t4) hu' he'
            have N := RcNeAt.tuples (I.hr.isTuple e1 t1 t2) (I.hr.isTuple e2 t3 t4) hu' he'
            rw [List.size_toArray, List.size_toArray, ← hl', Nat.min_self, hb] at R N
            simp only [beq_self_eq_true, Bool.and_true] at R N
            refine ⟨?_, R, N⟩
            by_cases hne : l1 = l2
            · subst hne; rw [hself rfl]; exact EqAt.same _
            · exact EqAt.of_refs hne R
          · cases h
        | _ => simp [eqF] at h
    | _ =>
      obtain ⟨xs, ys, q1, q2, e1, e2, e3⟩ := eqF_list (e := h) (by intro a; constructor <;> intro q <;> cases q) (by intro a q; cases q) (by intro a q; cases q) (by intro a q; cases q) (by intro a q; cases q)
      exact lists hv hw e1 e2 e3
noncomputable def eqM : AV → AV → Cm Bool := fun x y st => match eqF st 8 x y with
  | some b => some (b, st)
  | .none => .none
noncomputable def neM : AV → AV → Cm Bool := fun x y st => match eqF st 8 x y with
  | some b => some (!b, st)
  | .none => .none
theorem eq_ok : OkCmp c n .Eq eqM := by
  intro p hr W0 a b x y ha hb W st s hle I r st' e Q E hQ
  unfold eqM at e
  split at e
  · rename_i bb h
    cases e
    exact (eqF_ok I 8 (by have := hr.units; omega) (ha.mono hle) (hb.mono hle) h).2.1 _ _ E Q (hQ W _ s (Ext.refl ..) I rfl)
  · cases e
theorem ne_ok : OkCmp c n .NotEq neM := by
  intro p hr W0 a b x y ha hb W st s hle I r st' e Q E hQ
  unfold neM at e
  split at e
  · rename_i bb h
    cases e
    exact (eqF_ok I 8 (by have := hr.units; omega) (ha.mono hle) (hb.mono hle) h).2.2 _ _ E Q (hQ W _ s (Ext.refl ..) I rfl)
  · cases e
end
end Mine

namespace Mine

section
variable {c : Cx} {n : Nat} {sx : Sx}

theorem ImplE.cbytes {x : List UInt8} {k : Nat} {pos : Pos} : ImplE c n sx (.Constant (.bytes x) k pos) (pu (.bytes x.toArray)) := by
  intro p _ _ W0 W st s hle I b st' e Q E hQ; cases e
  exact Constant_bytes (hQ W _ _ ((Ext.refl ..).toks _) (I.toks _) (.bytes _ _))
noncomputable def addM : AV → AV → Cm AV := fun x y => match x with
  | .int a => (match y with | .int b => pu (.int (a + b)) | _ => no)
  | .str a => (match y with | .str b => if a.length + b.length ≤ 100000 then pu (.str (a ++ b)) else no | _ => no)
  | x => addLM x y
theorem add_ok : OkBin c n .Add addM := by
  intro p hr W0 a b x y ha hb W st s hle I v st' e Q E hQ
  have lists : addLM x y st = some (v, st') → wpAny (model c.prog c.w) p.A (binaryOp .Add a b) Q E s := fun e => addL_ok p hr W0 a b x y ha hb W st s hle I v st' e Q E hQ
  cases ha with
  | int i t =>
    cases hb with
    | int j u => cases e; exact P.add_int (hQ W _ _ ((Ext.refl ..).toks _) (I.toks _) (.int _ _))
    | _ => cases e
  | str i t =>
    cases hb with
    | str j u =>
      simp only [addM] at e
      split at e
      · rename_i hsz
        cases e
        exact PyProof.Rows.add_str (fun t' tk => hQ W _ _ ((Ext.refl ..).toks _) (I.toks _) (.str _ _)) (by rw [sizeLine_eq]; omega)
      · cases e
    | _ => cases e
  | _ => exact lists e
noncomputable def modM : AV → AV → Cm AV := fun x y => match x with
  | .int a => (match y with | .int b => if 0 < b then pu (.int (a % b)) else no | _ => no)
  | _ => no
theorem mod_ok : OkBin c n .Mod modM := by
  intro p hr W0 a b x y ha hb W st s hle I v st' e Q E hQ
  cases ha with
  | int i t =>
    cases hb with
    | int j u =>
      simp only [modM] at e
      split at e
      · rename_i hj
        cases e
        refine mod_int' (by omega) ?_
        rw [Int.fmod_eq_emod_of_nonneg _ (by omega)]
        exact hQ W _ _ ((Ext.refl ..).toks _) (I.toks _) (.int _ _)
      · cases e
    | _ => cases e
  | _ => cases e
noncomputable def divM : AV → AV → Cm AV := fun x y => match x with
  | .int a => (match y with | .int b => if 0 < b ∧ b < 1000000 then pu (.int (a / b)) else no | _ => no)
  | _ => no
theorem div_ok : OkBin c n .FloorDiv divM := by
  intro p hr W0 a b x y ha hb W st s hle I v st' e Q E hQ
  cases ha with
  | int i t =>
    cases hb with
    | int j u =>
      simp only [divM] at e
      split at e
      · rename_i hj
        cases e
        refine PyProof.Rows.floordiv_int (by omega) ?_ (.inl (PyProof.noPylong_small (by omega)))
        rw [Int.fdiv_eq_ediv_of_nonneg _ (by omega)]
        exact hQ W _ _ ((Ext.refl ..).toks _) (I.toks _) (.int _ _)
      · cases e
    | _ => cases e
  | _ => cases e
noncomputable def negM (f : Cm AV) : Cm AV := bd f fun x => match x with
  | .int a => pu (.int (-a))
  | _ => no
theorem ImplE.neg {e : Expr} {pos : Pos} {f : Cm AV} (h : ImplE c n sx e f) : ImplE c n sx (.UnaryOp .USub e pos) (negM f) := by
  intro p hsx hr W0 W st s hle I b st' e Q E hQ
  obtain ⟨x, st1, e1, e2⟩ := bd_some e
  refine wpAny_UnaryOp (h p hsx hr W W st s (Le.refl _) I x st1 e1 _ E fun W1 v s1 x1 I1 r1 => ?_)
  cases r1 with
  | int i t => cases e2; exact P.neg_int (hQ W1 _ _ (x1.toks _) (I1.toks _) (.int _ _))
  | _ => cases e2
noncomputable def gtM : AV → AV → Cm Bool := fun x y => match x with
  | .int a => (match y with | .int b => pu (decide (a > b)) | _ => no)
  | _ => no
theorem gt_ok : OkCmp c n .Gt gtM := by
  intro p hr W0 a b x y ha hb W st s hle I v st' e Q E hQ
  cases ha with
  | int i t =>
    cases hb with
    | int j u => cases e; exact P.gt_int (hQ W _ _ (Ext.refl ..) I rfl)
    | _ => cases e
  | _ => cases e
noncomputable def isF : AV → AV → Option Bool := fun x y => match y with
  | .none => (match x with | .none => some true | .val _ => .none | .unb => .none | _ => some false)
  | .ins j => (match x with | .ins k => some (k == j) | .none => some false | _ => .none)
  | .val (.type b) => (match x with | .val (.type a) => some (a == b) | _ => .none)
  | _ => .none
theorem isF_ok {p : Pl} {W : Wd} {st : AS} {s : Shared} (I : Inv c p W st s) {a b : Value} {x y : AV} {r : Bool} (ha : VR W a x) (hb : VR W b y) (e : isF x y = some r) {A : Around} {E : Value → Shared → Prop} :
    (∀ Q : Value → Shared → Prop, Q (.bool r) s → wpAny (model c.prog c.w) A (compareOp .Is a b) Q E s) ∧ (∀ Q : Value → Shared → Prop, Q (.bool (!r)) s → wpAny (model c.prog c.w) A (compareOp .IsNot a b) Q E s) := by
  cases y with
  | none =>
    obtain rfl := hb.inv_none
    have z : (a == Value.none) = r := by
      cases x with
      | none => obtain rfl := ha.inv_none; cases e; rfl
      | val _ => cases e
      | unb => cases e
      | bool _ => obtain rfl := ha.inv_bool; cases e; rfl
      | int _ => obtain ⟨_, rfl⟩ := ha.inv_int; cases e; rfl
      | str _ => obtain ⟨_, rfl⟩ := ha.inv_str; cases e; rfl
      | bytes _ => obtain ⟨_, rfl⟩ := ha.inv_bytes; cases e; rfl
      | ins _ => obtain ⟨rfl, _⟩ := ha.inv_ins; cases e; rfl
      | lob _ => obtain ⟨rfl, _⟩ := ha.inv_lob; cases e; rfl
      | lst _ => cases ha; cases e; rfl
      | tup _ => cases ha; cases e; rfl
      | lsb _ => cases ha; cases e; rfl
    exact ⟨fun Q h => is_none (z ▸ h), fun Q h => isNot_none (z ▸ h)⟩
  | ins j =>
    obtain ⟨rfl, hj⟩ := hb.inv_ins
    cases x with
    | none =>
      obtain rfl := ha.inv_none
      cases e
      exact ⟨fun Q h => wpAny_is_other rfl (by intro q; cases q) h, fun Q h => wpAny_isNot_other rfl (by intro q; cases q) h⟩
    | ins k =>
      obtain ⟨rfl, hk⟩ := ha.inv_ins
      cases e
      by_cases hkj : k = j
      · subst hkj
        simp only [beq_self_eq_true]
        exact ⟨fun Q h => wpAny_is_ref_self h, fun Q h => wpAny_isNot_ref_self h⟩
      · have hne : W.ia k ≠ W.ia j := fun q => by
          have r1 := (I.hr.iaR k hk).1
          rw [q, (I.hr.iaR j hj).1] at r1
          cases r1; exact hkj rfl
        have gk : ∃ i, st.ins[k]? = some i := ⟨_, List.getElem?_eq_getElem (by rw [← I.hr.ni]; exact hk)⟩
        have gj : ∃ i, st.ins[j]? = some i := ⟨_, List.getElem?_eq_getElem (by rw [← I.hr.ni]; exact hj)⟩
        obtain ⟨i1, g1⟩ := gk
        obtain ⟨i2, g2⟩ := gj
        obtain ⟨es1, m1, o1, _⟩ := I.hr.insA k i1 g1
        obtain ⟨es2, m2, o2, _⟩ := I.hr.insA j i2 g2
        have hf : (k == j) = false := by simpa using hkj
        rw [hf]
        exact ⟨fun Q h => wpAny_is_ref_other hne o1 o2 (by intro q; cases q) h, fun Q h => wpAny_isNot_ref_other hne o1 o2 (by intro q; cases q) h⟩
    | _ => cases e
  | val vb =>
    obtain rfl := hb.inv_val
    cases b with
    | type t =>
      cases x with
      | val va =>
        obtain rfl := ha.inv_val
        cases a with
        | type u =>
          cases e
          have z : (Value.type u == Value.type t) = (u == t) := by
            rw [Bool.eq_iff_iff, beq_iff_eq, beq_iff_eq]; exact ⟨fun q => by injection q, fun q => by rw [q]⟩
          exact ⟨fun Q h => wpAny_is_plain rfl (by rw [z]; exact h), fun Q h => wpAny_isNot_plain rfl (by rw [z]; exact h)⟩
        | _ => cases e
      | _ => cases e
    | _ => cases e
  | _ => cases e
noncomputable def isM : AV → AV → Cm Bool := fun x y st => match isF x y with
  | some b => some (b, st)
  | .none => .none
noncomputable def isNotM : AV → AV → Cm Bool := fun x y st => match isF x y with
  | some b => some (!b, st)
  | .none => .none
theorem is_ok : OkCmp c n .Is isM := by
  intro p hr W0 a b x y ha hb W st s hle I v st' e Q E hQ
  unfold isM at e
  split at e
  · rename_i r h; cases e
    exact (isF_ok I (ha.mono hle) (hb.mono hle) h).1 Q (hQ W _ s (Ext.refl ..) I rfl)
  · cases e
theorem isNot_ok : OkCmp c n .IsNot isNotM := by
  intro p hr W0 a b x y ha hb W st s hle I v st' e Q E hQ
  unfold isNotM at e
  split at e
  · rename_i r h; cases e
    exact (isF_ok I (ha.mono hle) (hb.mono hle) h).2 Q (hQ W _ s (Ext.refl ..) I rfl)
  · cases e
noncomputable def ImplP (c : Cx) (n : Nat) (sx : Sx) (e : Option Expr) (f : Cm (Option Int)) : Prop := ∀ p : Pl, p.sx = sx → Room n p.A → ∀ W0, Ok c p W0 (evalPart e p.env) (fun _ v k => IsPart v k) f
theorem ImplP.none : ImplP c n sx .none (pu .none) := by
  intro p _ _ W0 W st s hle I b st' e Q E hQ; cases e
  exact wpAny_pure (hQ W _ s (Ext.refl ..) I .none)
noncomputable def partM (f : Cm AV) : Cm (Option Int) := bd f fun x => match x with
  | .int i => pu (some i)
  | _ => no
theorem ImplP.some {e : Expr} {f : Cm AV} (h : ImplE c n sx e f) : ImplP c n sx (.some e) (partM f) := by
  intro p hsx hr W0 W st s hle I b st' e Q E hQ
  obtain ⟨x, st1, e1, e2⟩ := bd_some e
  refine h p hsx hr W W st s (Le.refl _) I x st1 e1 _ E fun W1 v s1 x1 I1 r1 => ?_
  cases r1 with
  | int i t => cases e2; exact hQ W1 _ s1 x1 I1 (.int _ _)
  | _ => cases e2
noncomputable def pickA {α : Type} (xs : List α) (lo hi st : Option Int) : List α := (sliceRange (sliceBounds lo hi st xs.length).1 (sliceBounds lo hi st xs.length).2.1 (sliceBounds lo hi st xs.length).2.2).filterMap (xs[·]?)
theorem VRs.pick {W : Wd} {vs : List Value} {xs : List AV} (h : VRs W vs xs) : ∀ l : List Nat, VRs W (l.filterMap (vs[·]?)) (l.filterMap (xs[·]?))
  | [] => .nil
  | i :: r => by
    rw [List.filterMap_cons, List.filterMap_cons]
    cases e : xs[i]? with
    | none =>
      have : vs[i]? = .none := by rw [List.getElem?_eq_none_iff] at e ⊢; rw [h.length]; exact e
      rw [this]; exact h.pick r
    | some x =>
      obtain ⟨v, e', q⟩ := h.get e
      rw [e']; exact .cons q (h.pick r)
noncomputable def sliceM (fv : Cm AV) (fl fu fs : Cm (Option Int)) : Cm AV := bd fv fun x => bd fl fun lo => bd fu fun hi => bd fs fun st => fun s => match itemsM x s with
  | some (xs, _) => if xs.length ≤ 100000 ∧ st ≠ some 0 then some (.lst (pickA xs lo hi st), s) else .none
  | .none => .none
theorem ImplE.slice {value : Expr} {l u st : Option Expr} {p0 pos : Pos} {fv : Cm AV} {fl fu fs : Cm (Option Int)} (h0 : ImplE c n sx value fv) (h1 : ImplP c n sx l fl) (h2 : ImplP c n sx u fu) (h3 : ImplP c n sx st fs) :
    ImplE c n sx (.Subscript value (.Slice l u st p0) pos) (sliceM fv fl fu fs) := by
  intro p hsx hr W0 W sta s hle I b st' e Q E hQ
  obtain ⟨x, st1, e1, e⟩ := bd_some e
  obtain ⟨lo, st2, e2, e⟩ := bd_some e
  obtain ⟨hi, st3, e3, e⟩ := bd_some e
  obtain ⟨stp, st4, e4, e⟩ := bd_some e
  refine Subscript_ (h0 p hsx hr W W sta s (Le.refl _) I x st1 e1 _ E fun W1 o s1 x1 I1 r1 => ?_)
  refine wpAny_Slice (h1 p hsx hr W1 W1 st1 s1 (Le.refl _) I1 lo st2 e2 _ E fun W2 vl s2 x2 I2 r2 => ?_)
  refine h2 p hsx hr W2 W2 st2 s2 (Le.refl _) I2 hi st3 e3 _ E fun W3 vu s3 x3 I3 r3 => ?_
  refine h3 p hsx hr W3 W3 st3 s3 (Le.refl _) I3 stp st4 e4 _ E fun W4 vs s4 x4 I4 r4 => ?_
  have xx := ((x1.trans x2).trans x3).trans x4
  have r1' := r1.mono ((x2.le.trans x3.le).trans x4.le)
  split at e
  · rename_i xs q he
    split at e
    · rename_i hb
      cases e
      obtain ⟨_, a, us, m, rfl, g, r⟩ := items_at I4 r1' he
      have I5 : Inv c p W4 st' { s4 with heap := s4.heap.push { cls := .type "slice", data := .fields #[vl, vu, vs] } } := I4.keeps (fun _ _ e => Heap.get?_push_of_some _ e)
      have x5 : Ext p.Own W4 s4 W4 { s4 with heap := s4.heap.push { cls := .type "slice", data := .fields #[vl, vu, vs] } } := Ext.keeps _ _ (fun _ _ e => Heap.get?_push_of_some _ e) rfl rfl
      have hl := r.length
      have L : (s4.heap.push { cls := .type "slice", data := .fields #[vl, vu, vs] }).IsList a us.toArray := ⟨_, Heap.get?_push_of_some _ g, rfl, _, rfl⟩
      refine tail_any (T := "list") (ops := match st with | .none => [.ref s4.heap.objs.size, .ref a] | _ => [.ref a, .ref s4.heap.objs.size]) ⟨_, Heap.get?_push_of_some _ g, rfl⟩ slot_list_getitem.lookup (wpAny_getItem_list_slice L ⟨_, Heap.get?_push_size _ rfl, rfl, rfl⟩ r2 r3 r4 hb.2 ?_ (by rw [List.size_toArray, sizeLine_eq]; omega)) (by cases st <;> rfl)
      have eq1 : slicePick us.toArray lo hi stp = (pickA us lo hi stp).toArray := by
        unfold slicePick pickA; simp only [List.size_toArray, List.getElem?_toArray]
      rw [eq1]
      obtain ⟨I6, x6⟩ := I5.pushFrz (listOf (pickA us lo hi stp).toArray 0) s4.toks
      refine hQ _ _ _ ((xx.trans x5).trans x6) I6 (.lst (n := 0) Wd.set_self ?_)
      have rp := r.pick (sliceRange (sliceBounds lo hi stp xs.length).1 (sliceBounds lo hi stp xs.length).2.1 (sliceBounds lo hi stp xs.length).2.2)
      have : VRs W4 (pickA us lo hi stp) (pickA xs lo hi stp) := by unfold pickA; rw [hl]; exact rp
      exact this.mono x6.le
    · cases e
  · cases e
end
end Mine

namespace Mine

section
variable {c : Cx} {n : Nat} {sx : Sx}

noncomputable def NewW (W : Wd) (h : Heap) (W' : Wd) (h' : Heap) : Prop := W' = W ∨ ∃ T o, h.get? T = .none ∧ h'.get? T = some o ∧ W' = W.set T (.frz o)
noncomputable def goesU : Expr → Bool
  | .Tuple .. => true
  | _ => false
noncomputable def goesT : Expr → Bool
  | .Name .. => true
  | .Tuple .. => true
  | _ => false
structure Itr (c : Cx) (A : Around) (I : Addr) (fp wr : List Addr) (gt : Expr → Bool) {σ : Type} (nx : σ → AS → Option (Option (AV × σ))) (J : σ → Wd → AS → Heap → Prop) : Prop where
  frame : ∀ (own : Addr → Prop) i W W' st st' s s', (∀ b ∈ fp, ¬ own b) → J i W st s.heap → HR c W st s.heap → Ext own W s W' s' → HR c W' st' s'.heap → J i W' st' s'.heap
  alive : ∀ i W st h, J i W st h → ∀ b ∈ fp, ∃ o, h.get? b = some o
  wrOk : ∀ i W st h, J i W st h → ∀ b ∈ wr, W.role b = .oth ∧ ∃ o, h.get? b = some o
  next : ∀ i i' x W st s tgt, gt tgt = true → J i W st s.heap → HR c W st s.heap → nx i st = some (some (x, i')) → ∀ (Q : Value → Shared → Prop) (E : Value → Shared → Prop),
    (∀ W' v h' tk, NewW W s.heap W' h' → VR W' v x → J i' W' st h' → (∀ b o, b ∉ wr → s.heap.get? b = some o → h'.get? b = some o) → Q v { s with heap := h', toks := tk }) →
    wpAny (model c.prog c.w) A (pyNext (.ref I)) (fun r s1 => match r with | .none => False | some v => wpAny (model c.prog c.w) A (letOwnedTupleGo tgt (.ref I) v) (fun _ s2 => Q v s2) E s1) E s
  stop : ∀ i W st s, J i W st s.heap → HR c W st s.heap → nx i st = some .none → ∀ (Q : Shared → Prop) (E : Value → Shared → Prop),
    (∀ h' tk, (∀ b o, b ∉ wr → s.heap.get? b = some o → h'.get? b = some o) → Q { s with heap := h', toks := tk }) →
    wpAny (model c.prog c.w) A (pyNext (.ref I)) (fun r s1 => match r with | .none => Q s1 | some _ => False) E s
  self : ∀ i W st s, J i W st s.heap → ∀ (Q : Value → Shared → Prop) (E : Value → Shared → Prop), Q (.ref I) s → wpAny (model c.prog c.w) A (pyIter (.ref I)) Q E s
noncomputable def forG {σ : Type} (nx : σ → AS → Option (Option (AV × σ))) (tgt : AV → Cm Unit) (body : Cm AF) : Nat → σ → Cm AF
  | 0, _ => no
  | m + 1, i => fun st => match nx i st with
    | .none => .none
    | some .none => some (.next, st)
    | some (some (x, i')) => (bd (tgt x) fun _ => thenM body (forG nx tgt body m i')) st
theorem poke_wr {p : Pl} {W0 W : Wd} {st : AS} {s0 s : Shared} {h' : Heap} {tk : Nat} {wr : List Addr} (I0 : ∀ b ∈ wr, s0.heap.get? b = .none) (hb0 : ∀ b ∈ wr, c.h0.get? b = .none) (hL : ∀ b ∈ wr, b ≠ p.env.locals) (hC : ∀ b ∈ wr, ∀ y, p.env.cells.lookup y ≠ some b)
    (hrole : ∀ b ∈ wr, W.role b = .oth) (x : Ext p.Own W0 s0 W s) (I : Inv c p W st s) (k : ∀ b o, b ∉ wr → s.heap.get? b = some o → h'.get? b = some o) :
    Inv c p W st { s with heap := h', toks := tk } ∧ Ext p.Own W0 s0 W { s with heap := h', toks := tk } := by
  refine ⟨⟨I.hr.grow fun b o hb e => k b o (fun q => ?_) e, I.fr.grow fun b o hb e => k b o (fun q => ?_) e⟩, ⟨x.le, fun b o e => ?_, x.oth, fun b o hm hn e => k b o (fun q => ?_) (x.kept b o hm hn e), x.gens, x.os⟩⟩
  · rcases hb with ⟨o', hb⟩ | hb
    · rw [hb0 b q] at hb; cases hb
    · exact hb (hrole b q)
  · rcases hb with hb | ⟨y, hb⟩
    · exact hL b q hb
    · exact hC b q y hb
  · obtain ⟨o1, e1⟩ := x.alive b o e
    exact ⟨o1, k b o1 (fun q => by rw [I0 b q] at e; cases e) e1⟩
  · rw [I0 b q] at e; cases e
theorem newW_ok {p : Pl} {W0 W W' : Wd} {st : AS} {s0 s : Shared} {h' : Heap} {tk : Nat} (hN : NewW W s.heap W' h') (Iold : Inv c p W st s) (I : Inv c p W st { s with heap := h', toks := tk }) (x0 : Ext p.Own W0 s0 W s) (x : Ext p.Own W0 s0 W { s with heap := h', toks := tk }) :
    Inv c p W' st { s with heap := h', toks := tk } ∧ Ext p.Own W0 s0 W' { s with heap := h', toks := tk } ∧ Le W W' := by
  rcases hN with rfl | ⟨T, o, hT, hT', rfl⟩
  · exact ⟨I, x, Le.refl _⟩
  · have hr := Iold.hr.oth_of_none hT
    refine ⟨I.newFrz hr hT' (fun q => ?_) (fun y q => ?_), ⟨x.le.trans (Le.set hr), x.alive, fun b o e z => ?_, x.kept, x.gens, x.os⟩, Le.set hr⟩
    · obtain ⟨ml, ⟨o1, es, ep, ho, _⟩, _⟩ := Iold.fr.ns
      rw [← q, hT] at ho; cases ho
    · obtain ⟨v', o1, ho, _⟩ := Iold.fr.cells y T q
      rw [hT] at ho; cases ho
    · rw [Wd.set_other]
      · exact x.oth b o e z
      · intro q
        obtain ⟨o1, e1⟩ := x0.alive b o e
        rw [q, hT] at e1; cases e1
theorem loop_ok {p : Pl} {I : Addr} {fp wr : List Addr} {gt : Expr → Bool} {σ : Type} {nx : σ → AS → Option (Option (AV × σ))} {J : σ → Wd → AS → Heap → Prop} (T : Itr c p.A I fp wr gt nx J) (hfp : ∀ b ∈ fp, ¬ p.Own b) (hr : Room n p.A) {target : Expr} {body : List Stmt} {tgt : AV → Cm Unit} {fb : Cm AF}
    (hg : gt target = true) (h1 : ImplA c n p.sx target tgt) (h2 : ImplS c n p.sx body fb) {W0 : Wd} {s0 : Shared} (I0 : ∀ b ∈ wr, s0.heap.get? b = .none) (hb0 : ∀ b ∈ wr, c.h0.get? b = .none) (hL : ∀ b ∈ wr, b ≠ p.env.locals) (hC : ∀ b ∈ wr, ∀ y, p.env.cells.lookup y ≠ some b)
    {W : Wd} {st : AS} {s : Shared} (x : Ext p.Own W0 s0 W s) (Iv : Inv c p W st s) {m : Nat} {i : σ} (j : J i W st s.heap) {r : AF} {st' : AS} (e : forG nx tgt fb m i st = some (r, st')) {R : Result → Shared → Prop}
    (hR : ∀ W' fl s', Ext p.Own W0 s0 W' s' → Inv c p W' st' s' → FlowR W' fl r → R (.ok fl) s') : codeAny (model c.prog c.w) p.A (.forLoop target (.ref I) body [] p.env) R s := by
  refine codeAny_forLoop_any (fun k s' => ∃ W' st1 i', Ext p.Own W0 s0 W' s' ∧ Inv c p W' st1 s' ∧ J i' W' st1 s'.heap ∧ forG nx tgt fb k i' st1 = some (r, st')) ?_ m ⟨W, st, i, x, Iv, j, e⟩
  rintro k s1 ⟨W1, st1, i1, x1, Iv1, j1, e1⟩
  cases k with
  | zero => cases e1
  | succ k =>
    simp only [forG] at e1
    split at e1
    · cases e1
    · rename_i hnx
      cases e1
      refine wpAny_noRaise (wpAny_mono (T.stop i1 W1 st' s1 j1 Iv1.hr hnx (fun s2 => R (.ok .next) s2) (fun _ _ => False) fun h' tk hk => ?_) (fun q s2 hq => ?_) fun _ _ q => q)
      · obtain ⟨I2, x2⟩ := poke_wr (tk := tk) I0 hb0 hL hC (fun b hb => (T.wrOk i1 W1 st' s1.heap j1 b hb).1) x1 Iv1 hk
        exact hR W1 _ _ x2 I2 .next
      · cases q with
        | none => exact wpAny_execs_nil hq
        | some => exact hq.elim
    · rename_i xv i2 hnx
      obtain ⟨u, st2, e2, e3⟩ := bd_some e1
      obtain ⟨fr, st3, e4, e5⟩ := bd_some e3
      refine wpAny_noRaise (wpAny_mono (T.next i1 i2 xv W1 st1 s1 target hg j1 Iv1.hr hnx (fun v s2 => wpAny (model c.prog c.w) p.A (assign target p.env v) (fun _ s3 => wpAny (model c.prog c.w) p.A (execs body p.env) (fun f s4 => match f with
            | .next | .cont => ∃ m, m < k + 1 ∧ ∃ W' st1 i', Ext p.Own W0 s0 W' s4 ∧ Inv c p W' st1 s4 ∧ J i' W' st1 s4.heap ∧ forG nx tgt fb m i' st1 = some (r, st')
            | .brk => R (.ok .next) s4
            | .ret v => R (.ok (.ret v)) s4) (fun _ _ => False) s3) (fun _ _ => False) s2) (fun _ _ => False) fun W2 v h' tk hN rv j2 hk => ?_) (fun q s2 hq => ?_) fun _ _ q => q)
      · obtain ⟨Ia, xa⟩ := poke_wr (tk := tk) I0 hb0 hL hC (fun b hb => (T.wrOk i1 W1 st1 s1.heap j1 b hb).1) x1 Iv1 hk
        obtain ⟨I2, x2, le2⟩ := newW_ok hN Iv1 Ia x1 xa
        refine h1 p rfl hr W2 v xv rv W2 st1 _ (Le.refl _) I2 u st2 e2 _ _ fun W3 _ s3 x3 I3 _ => ?_
        have j3 := T.frame p.Own i2 W2 W3 st1 st2 { s1 with heap := h', toks := tk } s3 hfp j2 I2.hr x3 I3.hr
        refine h2 p rfl hr W3 W3 st2 s3 (Le.refl _) I3 fr st3 e4 _ _ fun W4 fl s4 x4 I4 r4 => ?_
        have j4 := T.frame p.Own i2 W3 W4 st2 st3 s3 s4 hfp j3 I3.hr x4 I4.hr
        cases r4 with
        | next => exact ⟨k, Nat.lt_succ_self _, W4, st3, i2, (x2.trans x3).trans x4, I4, j4, e5⟩
        | ret rv' => cases e5; exact hR W4 _ s4 ((x2.trans x3).trans x4) I4 (.ret rv')
      · cases q with
        | none => exact hq.elim
        | some v => exact wpAny_mono hq (fun _ s3 z => wpAny_noRaise (wpAny_mono z (fun _ s4 y => wpAny_noRaise y) fun _ _ q => q)) fun _ _ q => q.elim
noncomputable def ImplI (c : Cx) (n : Nat) (sx : Sx) (e : Expr) (gt : Expr → Bool) {σ : Type} (f : Cm σ) (nx : σ → AS → Option (Option (AV × σ))) : Prop :=
  ∀ p : Pl, p.sx = sx → Room n p.A → ∀ W st s, Inv c p W st s → ∀ i st', f st = some (i, st') → ∀ (Q : Value → Shared → Prop) (E : Value → Shared → Prop),
    (∀ W' s' I fp wr J, Ext p.Own W s W' s' → Inv c p W' st' s' → Itr c p.A I fp wr gt nx J → J i W' st' s'.heap → (∀ b ∈ wr, s.heap.get? b = .none) → (∀ b ∈ fp, ¬ p.Own b) → Q (.ref I) s') →
    wpAny (model c.prog c.w) p.A (eval e p.env) (fun x s1 => wpAny (model c.prog c.w) p.A (pyIter x) Q E s1) E s
noncomputable def forM' {σ : Type} (f : Cm σ) (size : σ → AS → Nat) (nx : σ → AS → Option (Option (AV × σ))) (tgt : AV → Cm Unit) (body : Cm AF) : Cm AF := bd f fun i st => forG nx tgt body (size i st) i st
theorem ImplS1.for {gt : Expr → Bool} {target iter : Expr} {body : List Stmt} {pos : Pos} {σ : Type} {f : Cm σ} {size : σ → AS → Nat} {nx : σ → AS → Option (Option (AV × σ))} {tgt : AV → Cm Unit} {fb : Cm AF} (h0 : ImplI c n sx iter gt f nx) (h1 : ImplA c n sx target tgt) (h2 : ImplS c n sx body fb)
    (hg : gt target = true := by rfl) (hs : ∀ env x, foldedSetIterable iter env x = pure x := by intro _ _; rfl) : ImplS1 c n sx (.For target iter body [] pos) (forM' f size nx tgt fb) := by
  intro p hsx hr W0 W st s hle I r st' e Q E hQ
  obtain ⟨i, st1, e1, e2⟩ := bd_some e
  subst hsx
  refine wpAny_For (h0 p rfl hr W st s I i st1 e1 _ E fun W1 s1 It fp wr J x1 I1 T j hwr hfp => ?_) (hs p.env)
  refine loop_ok T hfp hr hg h1 h2 hwr (fun b hb => I.hr.base_none (hwr b hb)) (fun b hb q => ?_) (fun b hb y q => ?_) x1 I1 j e2 (fun W' fl s' x' I' r' => hQ W' fl s' x' I' r')
  · obtain ⟨ml, ⟨o1, es, ep, ho, _⟩, _⟩ := I.fr.ns
    rw [← q, hwr b hb] at ho; cases ho
  · obtain ⟨v', o1, ho, _⟩ := I.fr.cells y b q
    rw [hwr b hb] at ho; cases ho
end
end Mine

namespace Mine

section
variable {c : Cx} {n : Nat} {sx : Sx}

noncomputable def nxL : List AV → AS → Option (Option (AV × List AV)) := fun xs _ => match xs with
  | [] => some .none
  | x :: r => some (some (x, r))
noncomputable def sizeL : List AV → AS → Nat := fun xs _ => xs.length + 1
structure JW (fp wr : List Addr) (N : Nat) (P : Nat → Value → Prop) (St : Nat → Heap → Prop) (xs : List AV) (W : Wd) (st : AS) (h : Heap) : Prop where
  at_ : ∃ i, i + xs.length = N ∧ St i h ∧ ∀ k v x, xs[k]? = some x → P (i + k) v → VR W v x
  fpOk : ∀ b ∈ fp, ¬ W.Mut b ∧ ∃ o, h.get? b = some o
  wrOk : ∀ b ∈ wr, W.role b = .oth
theorem itr_walks {A : Around} {I : Addr} {fp wr : List Addr} {N : Nat} {P : Nat → Value → Prop} {St : Nat → Heap → Prop} (Wk : Walks c.prog c.w A I fp wr N P St) (hal : ∀ i h, St i h → ∀ b ∈ fp, ∃ o, h.get? b = some o)
    (hgo : ∀ i (s : Shared) v tgt (Q : Unit → Shared → Prop) (E : Value → Shared → Prop), goesT tgt = true → St i s.heap → Q () s → wpAny (model c.prog c.w) A (letOwnedTupleGo tgt (.ref I) v) Q E s) : Itr c A I fp wr goesT nxL (JW fp wr N P St) where
  alive := fun xs W st h j b hb => (j.fpOk b hb).2
  frame := fun own xs W W' st st' s s' hno j Iv x Iv' => by
    obtain ⟨i, h1, h2, h3⟩ := j.at_
    have kp : ∀ b ∈ fp, ∀ o, s.heap.get? b = some o → s'.heap.get? b = some o := fun b hb o e => x.kept b o (j.fpOk b hb).1 (hno b hb) e
    refine ⟨⟨i, h1, Wk.frame i s.heap s'.heap h2 kp, fun k v y e q => (h3 k v y e q).mono x.le⟩, fun b hb => ?_, fun b hb => ?_⟩
    · obtain ⟨q1, o, q3⟩ := j.fpOk b hb
      exact ⟨x.unmut q3 q1, o, kp b hb o q3⟩
    · obtain ⟨q1, o, q3⟩ := j.fpOk b (Wk.sub b hb)
      exact x.oth b o q3 (j.wrOk b hb)
  wrOk := fun xs W st h j b hb => ⟨j.wrOk b hb, (j.fpOk b (Wk.sub b hb)).2⟩
  next := fun xs xs' x W st s tgt hg j Iv e Q E hQ => by
    obtain ⟨i, h1, h2, h3⟩ := j.at_
    cases xs with
    | nil => cases e
    | cons y r =>
      cases e
      have hi : i < N := by rw [List.length_cons] at h1; omega
      refine Wk.item i s _ E hi h2 fun v h' tk hP hS hk => ?_
      refine hgo (i + 1) { s with heap := h', toks := tk } v tgt _ E hg hS ?_
      refine hQ W v h' tk (.inl rfl) (h3 0 v x rfl (by simpa using hP)) ⟨⟨i + 1, by rw [List.length_cons] at h1; omega, hS, fun k w z q1 q2 => h3 (k + 1) w z (by simpa using q1) (by rw [show i + (k + 1) = i + 1 + k from by omega]; exact q2)⟩, fun b hb => ?_, j.wrOk⟩ hk
      exact ⟨(j.fpOk b hb).1, hal _ _ hS b hb⟩
  stop := fun xs W st s j Iv e Q E hQ => by
    obtain ⟨i, h1, h2, h3⟩ := j.at_
    cases xs with
    | cons y r => cases e
    | nil =>
      have hi : i = N := by simpa using h1
      subst hi
      exact Wk.done s _ E h2 fun h' tk hk => hQ h' tk hk
  self := fun xs W st s j Q E hQ => by
    obtain ⟨i, h1, h2, h3⟩ := j.at_
    exact Wk.self i s Q E h2 hQ
theorem go_listiter {A : Around} {s : Shared} {I l : Addr} {i : Nat} {v : Value} {tgt : Expr} {Q : Unit → Shared → Prop} {E : Value → Shared → Prop} (hg : goesT tgt = true) (hit : s.heap.IsListIter I l i) (hQ : Q () s) : wpAny (model c.prog c.w) A (letOwnedTupleGo tgt (.ref I) v) Q E s := by
  cases tgt with
  | Name => exact wpAny_pure hQ
  | Tuple elts k pos =>
    cases v with
    | ref T => exact wpAny_letOwnedTupleGo_listiter hit hQ
    | _ => exact wpAny_pure hQ
  | _ => cases hg
noncomputable def lstIt : AV → Cm (List AV) := fun x => match x with
  | .lst xs => pu xs
  | _ => no
theorem Inv.fresh_own {p : Pl} {W : Wd} {st : AS} {s : Shared} (I : Inv c p W st s) {a : Addr} (h : s.heap.get? a = .none) : ¬ p.Own a := fun q => by
  rcases q with rfl | q
  · obtain ⟨ml, ⟨o1, es, ep, ho, _⟩, _⟩ := I.fr.ns
    rw [h] at ho; cases ho
  · obtain ⟨y, q⟩ := I.fr.wcIn a q
    obtain ⟨v', o1, ho, _⟩ := I.fr.cells y a q
    rw [h] at ho; cases ho
theorem Inv.frz_own {p : Pl} {W : Wd} {st : AS} {s : Shared} (I : Inv c p W st s) {a : Addr} {o : Obj} (h : W.role a = .frz o) : ¬ p.Own a ∧ ¬ W.Mut a := ⟨(fun q => by rw [I.fr.ownOth q] at h; cases h), (by unfold Wd.Mut; rw [h]; exact fun q => q)⟩
theorem ImplI.list {e : Expr} {f : Cm AV} (h : ImplE c n sx e f) : ImplI c n sx e goesT (bd f lstIt) nxL := by
  intro p hsx hr W st s I xs st' e Q E hQ
  obtain ⟨x, st1, e1, e2⟩ := bd_some e
  refine h p hsx hr W W st s (Le.refl _) I x st1 e1 _ E fun W1 v s1 x1 I1 r1 => ?_
  cases r1 with
  | @lst a vs m _ hrole hvs =>
    cases e2
    have L := I1.hr.isList hrole
    have hn : s1.heap.get? s1.heap.objs.size = .none := get_none_of_ge (Nat.le_refl _)
    have ha := I1.hr.frz _ _ hrole
    have hne : a ≠ s1.heap.objs.size := Nat.ne_of_lt (Heap.lt_size ha)
    refine wpAny_pyIter_list L ?_
    have k2 : ∀ b o, s1.heap.get? b = some o → (s1.heap.push { cls := .type "list_iterator", data := .fields #[.ref a, .int 0 0] }).get? b = some o := fun _ _ e => Heap.get?_push_of_some _ e
    have x2 : Ext p.Own W1 s1 W1 { s1 with heap := s1.heap.push { cls := .type "list_iterator", data := .fields #[.ref a, .int 0 0] } } := Ext.keeps _ _ k2 rfl rfl
    have Wk := Walks.list (prog := c.prog) (w := c.w) (A := p.A) hr.1 s1.heap.objs.size a hne vs.toArray
    refine hQ W1 _ s1.heap.objs.size [s1.heap.objs.size, a] [s1.heap.objs.size] _ (x1.trans x2) (I1.keeps k2) (itr_walks Wk (fun i hh q b hb => ?_) (fun i s v tgt Q E hg q hq => go_listiter hg q.1 hq)) ⟨⟨0, ?_, ⟨⟨_, Heap.get?_push_size _ rfl, rfl, rfl⟩, L.push _⟩, fun k v y q1 q2 => ?_⟩, fun b hb => ?_, fun b hb => ?_⟩ (fun b hb => ?_) (fun b hb => ?_)
    · rcases List.mem_cons.mp hb with rfl | hb
      · obtain ⟨o, ho, _⟩ := q.1; exact ⟨o, ho⟩
      · rw [List.mem_singleton.mp hb]; obtain ⟨o, ho, _⟩ := q.2; exact ⟨o, ho⟩
    · rw [List.size_toArray, hvs.length, Nat.zero_add]
    · rw [Nat.zero_add, List.getElem?_toArray] at q2
      obtain ⟨x', e', r'⟩ := hvs.getv q2
      rw [q1] at e'; cases e'; exact r'
    · rcases List.mem_cons.mp hb with rfl | hb
      · exact ⟨by unfold Wd.Mut; rw [I1.hr.oth_of_none hn]; exact fun q => q, _, Heap.get?_push_size _ rfl⟩
      · rw [List.mem_singleton.mp hb]; exact ⟨(I1.frz_own hrole).2, _, k2 _ _ ha⟩
    · rw [List.mem_singleton.mp hb]; exact I1.hr.oth_of_none hn
    · rw [List.mem_singleton.mp hb]
      cases z : s.heap.get? s1.heap.objs.size with
      | none => rfl
      | some o => obtain ⟨o1, z1⟩ := x1.alive _ o z; rw [hn] at z1; cases z1
    · rcases List.mem_cons.mp hb with q | hb
      · rw [q]; exact I1.fresh_own hn
      · rw [List.mem_singleton.mp hb]; exact (I1.frz_own hrole).1
  | _ => cases e2
end
end Mine

namespace Mine

section
variable {c : Cx} {n : Nat} {sx : Sx}

end
end Mine

namespace Mine

section
variable {c : Cx} {n : Nat} {sx : Sx}

theorem ints_are {W : Wd} : ∀ {vs : List Value} {ns : List Int}, IntsAre vs ns → VRs W vs (ns.map .int)
  | _, _, h => by
    induction h with
    | nil => exact .nil
    | cons => exact .cons (.int _ _) (by assumption)
theorem law_ok (G : Gd c) {nm : Str} {scope : Scope} {fa : Addr} {cd : Value} {body : List Stmt} {x : Str} {others : List Str} {f : Cm AF} (hS : ImplS c n ⟨scope, x :: others, x :: others⟩ body f)
    (hn : n ≤ 80) (hk : scope.kind = .function) (hkinds : ((x :: others).all fun y => scope.names.lookup y == some .local) = true) (hnd : (x :: others).Nodup)
    {s : Shared} {m : Str → Option Value} (F : Fr c.h0 c.h0.objs.size s.heap m) {a : Addr} (hm : m x = some (.ref a)) {vs : List Value} {ns : List Int} (hL : c.h0.IsList a vs.toArray) (hI : IntsAre vs ns)
    (hf : ∃ st', f ⟨.lsb (ns.map .int) :: List.replicate others.length .unb, [], [[]], 0⟩ = some (.ret (.bool true), st')) {Q : Flow → Shared → Prop} {E : Value → Shared → Prop}
    (hQ : ∀ s', (∀ b o, c.h0.get? b = some o → s'.heap.get? b = some o) → s'.gens = s.gens → s'.os = s.os → Q (.ret (.bool true)) s') :
    wpAny (model c.prog c.w) (callerA.deeper (envOf nm scope c.h0.objs.size fa cd)) (execs body (envOf nm scope c.h0.objs.size fa cd)) Q E s := by
  obtain ⟨st', hf⟩ := hf
  obtain ⟨o, ho, hc, k, hd⟩ := hL
  have hLn : c.h0.get? c.h0.objs.size = .none := get_none_of_ge (Nat.le_refl _)
  have haL : c.h0.objs.size ≠ a := fun q => by rw [← q, hLn] at ho; cases ho
  let W : Wd := ⟨fun b => if b = a then .frz o else .oth, fun _ => 0, fun _ => 0, fun _ => 0, 0, 0⟩
  let p : Pl := ⟨callerA.deeper (envOf nm scope c.h0.objs.size fa cd), ⟨scope, x :: others, x :: others⟩, envOf nm scope c.h0.objs.size fa cd, []⟩
  have hW : ∀ b, W.role b = .oth ∨ (b = a ∧ W.role b = .frz o) := fun b => by
    by_cases q : b = a
    · exact .inr ⟨q, if_pos q⟩
    · exact .inl (if_neg q)
  have hnm : ∀ b, ¬ W.Mut b := fun b q => by
    unfold Wd.Mut at q
    rcases hW b with z | ⟨_, z⟩ <;> rw [z] at q <;> exact q
  have hkl : ∀ y ∈ x :: others, p.env.kindOf y = some .local := fun y hy => by
    have := List.all_eq_true.mp hkinds y hy
    exact beq_iff_eq.mp this
  have I : Inv c p W ⟨.lsb (ns.map .int) :: List.replicate others.length .unb, [], [[]], 0⟩ s := by
    refine ⟨⟨F.keep, fun b q => absurd q (hnm b), fun b => ?_, fun b o' e => ?_, rfl, rfl, fun k hk => absurd hk (Nat.not_lt_zero _), (fun k i e => by simp at e), fun g hg p hp => ?_, ?_⟩,
      ⟨⟨m, F.ns, fun i y v h1 h2 h3 h4 => ?_⟩, fun i y v h1 h2 h3 h4 => ?_, (fun y b q => by cases q), fun y hy q => ?_, fun y hy => .inl (hkl y hy), List.Pairwise.nil, (fun b hb => by cases hb), if_neg haL, (fun y b q => by cases q), hLn, rfl, hk, rfl, rfl, hnd⟩⟩
    · rcases hW b with z | ⟨z1, z2⟩
      · exact .inl z
      · exact .inr ⟨o, F.keep _ _ (z1 ▸ ho)⟩
    · rcases hW b with z | ⟨z1, z2⟩
      · rw [z] at e; cases e
      · rw [z2] at e; cases e; exact F.keep _ _ (z1 ▸ ho)
    · rw [List.mem_singleton.mp hg] at hp; cases hp
    · exact List.nodup_nil
    · cases i with
      | zero =>
        have e1 : x = y := Option.some.inj h1
        have e2 : AV.lsb (ns.map .int) = v := Option.some.inj h2
        subst e1 e2
        exact ⟨_, hm, .lsb (if_pos rfl) hc hd (ints_are hI)⟩
      | succ i =>
        have h2' : (List.replicate others.length AV.unb)[i]? = some v := h2
        rw [List.getElem?_replicate] at h2'
        split at h2'
        · exact absurd (Option.some.inj h2').symm h3
        · cases h2'
    · rw [hkl y (List.mem_of_getElem? h1)] at h4; cases h4
    · rw [hkl y hy] at q; cases q
  have hr : Room n p.A := ⟨rfl, by show 1 + claimMargin + 1 + 2 * n ≤ 900; unfold claimMargin; omega, by show 4 + 3 + 100 * n + 100 ≤ 9000; omega⟩
  refine hS p rfl hr W W _ s (Le.refl _) I _ st' hf Q E fun W1 fl s1 x1 I1 r1 => ?_
  cases r1 with
  | ret rv =>
    cases rv
    exact hQ s1 I1.hr.keep x1.gens x1.os
end
end Mine

namespace Mine

section
variable {c : Cx} {n : Nat} {sx : Sx}

end
end Mine

namespace Mine

section
variable {c : Cx} {n : Nat} {sx : Sx}

end
end Mine

namespace Mine

section
variable {c : Cx} {n : Nat} {sx : Sx}

theorem items_hr {W : Wd} {st st' : AS} {h : Heap} (H : HR c W st h) {v : Value} {x : AV} {xs : List AV} (hv : VR W v x) (e : itemsM x st = some (xs, st')) :
    ∃ a vs m, v = .ref a ∧ h.get? a = some (listOf vs.toArray m) ∧ VRs W vs xs := by
  cases hv with
  | lst h r => simp only [itemsM] at e; cases e; exact ⟨_, _, _, rfl, H.frz _ _ h, r⟩
  | lob k hk =>
    simp only [itemsM] at e
    split at e
    · rename_i ys hy
      cases e
      obtain ⟨_, _, vs, m, h3, h4⟩ := H.lobAt hy
      exact ⟨_, vs, m, rfl, h3, h4⟩
    · cases e
  | _ => simp only [itemsM] at e; cases e
noncomputable def nxA : AV × Nat → AS → Option (Option (AV × (AV × Nat))) := fun i st => match itemsM i.1 st with
  | some (xs, _) => (match xs[i.2]? with | some y => some (some (y, (i.1, i.2 + 1))) | .none => some .none)
  | .none => .none
noncomputable def sizeA : AV × Nat → AS → Nat := fun i st => match itemsM i.1 st with
  | some (xs, _) => xs.length + 1
  | .none => 0
structure JA (it : Addr) (i : AV × Nat) (W : Wd) (st : AS) (h : Heap) : Prop where
  at_ : ∃ l, VR W (.ref l) i.1 ∧ h.IsListIter it l i.2
  io : W.role it = .oth
theorem any_itr {A : Around} (hr : Room n A) {it : Addr} : Itr c A it [it] [it] goesT nxA (JA it) where
  alive := fun i W st h j b hb => by
    obtain ⟨l, _, o, h7, _⟩ := j.at_
    rw [List.mem_singleton.mp hb]; exact ⟨_, h7⟩
  frame := fun own i W W' st st' s s' hno j H x H' => by
    obtain ⟨l, h1, o, h7, h8⟩ := j.at_
    have mi : ¬ W.Mut it := by unfold Wd.Mut; rw [j.io]; exact fun q => q
    exact ⟨⟨l, h1.mono x.le, o, x.kept _ _ mi (hno _ List.mem_cons_self) h7, h8⟩, x.oth _ _ h7 j.io⟩
  wrOk := fun i W st h j b hb => by
    obtain ⟨l, _, o, h7, _⟩ := j.at_
    rw [List.mem_singleton.mp hb]; exact ⟨j.io, _, h7⟩
  next := fun i i' x W st s tgt hg j H e Q E hQ => by
    obtain ⟨l, h1, hit⟩ := j.at_
    simp only [nxA] at e
    split at e
    · rename_i xs q he
      split at e
      · rename_i y hy
        cases e
        obtain ⟨a, vs, m, ha, hg', hvs⟩ := items_hr H h1 he
        cases ha
        have L : s.heap.IsList l vs.toArray := ⟨_, hg', rfl, _, rfl⟩
        obtain ⟨v, hv, rv⟩ := hvs.get hy
        refine wpAny_pyNext_list_item hit L (by rw [List.getElem?_toArray]; exact hv) fun h' hit' hs' => ?_
        refine go_listiter hg hit' ?_
        refine hQ W v h' s.toks (.inl rfl) rv ⟨⟨l, h1, hit'⟩, j.io⟩ fun b o hb e => hs'.extBut b o (fun z => hb (by rw [z]; exact List.mem_cons_self)) e
      · cases e
    · cases e
  stop := fun i W st s j H e Q E hQ => by
    obtain ⟨l, h1, hit⟩ := j.at_
    simp only [nxA] at e
    split at e
    · rename_i xs q he
      split at e
      · cases e
      · rename_i hy
        obtain ⟨a, vs, m, ha, hg', hvs⟩ := items_hr H h1 he
        cases ha
        have L : s.heap.IsList l vs.toArray := ⟨_, hg', rfl, _, rfl⟩
        refine wpAny_pyNext_list_end hr.1 hit L (by rw [List.getElem?_toArray]; rw [List.getElem?_eq_none_iff] at hy ⊢; rw [hvs.length]; exact hy) fun h' hk => ?_
        exact hQ h' s.toks fun b o hb e => hk b o (fun z => hb (by rw [z]; exact List.mem_cons_self)) e
    · cases e
  self := fun i W st s j Q E hQ => by
    obtain ⟨l, h1, hit⟩ := j.at_
    exact wpAny_pyIter_listiter hit hQ
noncomputable def anyIt : AV → Cm (AV × Nat) := fun x st => match itemsM x st with
  | some _ => some ((x, 0), st)
  | .none => .none
theorem ImplI.any {e : Expr} {f : Cm AV} (h : ImplE c n sx e f) : ImplI c n sx e goesT (bd f anyIt) nxA := by
  intro p hsx hr W st s I i st' e Q E hQ
  obtain ⟨x, st1, e1, e2⟩ := bd_some e
  refine h p hsx hr W W st s (Le.refl _) I x st1 e1 _ E fun W1 v s1 x1 I1 r1 => ?_
  unfold anyIt at e2
  split at e2
  · rename_i q he
    cases e2
    obtain ⟨xs, q⟩ := q
    obtain ⟨a, vs, m, ha, hg, hvs⟩ := items_hr I1.hr r1 he
    subst ha
    have L : s1.heap.IsList a vs.toArray := ⟨_, hg, rfl, _, rfl⟩
    have hn : s1.heap.get? s1.heap.objs.size = .none := get_none_of_ge (Nat.le_refl _)
    refine wpAny_pyIter_list L ?_
    have k2 : ∀ b o, s1.heap.get? b = some o → (s1.heap.push { cls := .type "list_iterator", data := .fields #[.ref a, .int 0 0] }).get? b = some o := fun _ _ e => Heap.get?_push_of_some _ e
    have x2 : Ext p.Own W1 s1 W1 { s1 with heap := s1.heap.push { cls := .type "list_iterator", data := .fields #[.ref a, .int 0 0] } } := Ext.keeps _ _ k2 rfl rfl
    refine hQ W1 _ s1.heap.objs.size [s1.heap.objs.size] [s1.heap.objs.size] _ (x1.trans x2) (I1.keeps k2) (any_itr hr) ⟨⟨a, r1, ⟨_, Heap.get?_push_size _ rfl, rfl, rfl⟩⟩, I1.hr.oth_of_none hn⟩ (fun b hb => ?_) (fun b hb => by rw [List.mem_singleton.mp hb]; exact I1.fresh_own hn)
    rw [List.mem_singleton.mp hb]
    cases z : s.heap.get? s1.heap.objs.size with
    | none => rfl
    | some o => obtain ⟨o1, z1⟩ := x1.alive _ o z; rw [hn] at z1; cases z1
  · cases e2
end
end Mine

namespace Mine

section
variable {c : Cx} {n : Nat} {sx : Sx}

noncomputable def mulM : AV → AV → Cm AV := fun x y => match x with
  | .str a => (match y with | .int k => if 0 ≤ k ∧ k ≤ 1000 ∧ a.length ≤ 1000 then pu (.str (Txt.mul a k)) else no | _ => no)
  | .bytes b => (match y with | .int k => if b.toList ≠ [] ∧ b.size ≤ 16 ∧ 0 ≤ k ∧ k ≤ 1000 then pu (.bytes (List.replicate k.toNat b.toList).flatten.toArray) else no | _ => no)
  | x => mulLM x y
theorem mul_ok : OkBin c n .Mult mulM := by
  intro p hr W0 a b x y ha hb W st s hle I v st' e Q E hQ
  have lists : mulLM x y st = some (v, st') → wpAny (model c.prog c.w) p.A (binaryOp .Mult a b) Q E s := fun e => mulL_ok p hr W0 a b x y ha hb W st s hle I v st' e Q E hQ
  cases ha with
  | str i t =>
    cases hb with
    | int k u =>
      simp only [mulM] at e
      split at e
      · rename_i hk
        cases e
        refine SB.mul (mulOk_of 1000 1000 hk.2.2 (by omega) (by omega) (by omega) (by omega)) fun t' k' => ?_
        exact hQ W _ _ ((Ext.refl ..).toks _) (I.toks _) (.str _ _)
      · cases e
    | _ => cases e
  | bytes i t =>
    cases hb with
    | int k u =>
      simp only [mulM] at e
      split at e
      · rename_i hk
        cases e
        obtain ⟨h1, h2, h3, h4⟩ := hk
        have := bytes_mul_any (prog := c.prog) (w := c.w) (A := p.A) (E := E) (s := s) (b := i.toList) (n := k) (t := t) (u := u) (Q := Q) h1 (by omega) (by omega) (by simpa using h2) fun t' k' => hQ W _ _ ((Ext.refl ..).toks _) (I.toks _) (.bytes _ _)
        simpa using this
      · cases e
    | _ => cases e
  | _ => exact lists e
end
end Mine

namespace Mine

section
variable {c : Cx} {n : Nat} {sx : Sx}

end
end Mine

namespace Mine

section
variable {c : Cx} {n : Nat} {sx : Sx}

end
end Mine

namespace Mine

section
variable {c : Cx} {n : Nat} {sx : Sx}

noncomputable def heads : List (List AV) → Option (List AV × List (List AV))
  | [] => some ([], [])
  | xs :: r => (match xs, heads r with
    | x :: t, some (hs, ts) => some (x :: hs, t :: ts)
    | _, _ => .none)
noncomputable def nxZ : List (List AV) → AS → Option (Option (AV × List (List AV))) := fun ls _ => match heads ls with
  | some (hs, ts) => some (some (.tup hs, ts))
  | .none => some .none
noncomputable def sizeZ : List (List AV) → AS → Nat := fun ls _ => (ls.headD []).length + 1
theorem heads_app : ∀ (a b : List (List AV)) {hs : List AV} {ts : List (List AV)}, heads a = some (hs, ts) → heads (a ++ b) = match heads b with | some (hs', ts') => some (hs ++ hs', ts ++ ts') | .none => .none
  | [], b, _, _, h => by
    cases h
    rw [List.nil_append]
    cases heads b with
    | none => rfl
    | some p => rfl
  | xs :: r, b, hs, ts, h => by
    unfold heads at h
    split at h
    · rename_i x t hs' ts' e
      cases h
      have ih := heads_app r b e
      rw [List.cons_append]
      simp only [heads, ih]
      cases heads b with
      | none => rfl
      | some p => rfl
    · cases h
theorem heads_len : ∀ {ls : List (List AV)} {hs : List AV} {ts : List (List AV)}, heads ls = some (hs, ts) → hs.length = ts.length
  | [], _, _, h => by cases h; rfl
  | xs :: r, hs, ts, h => by
    unfold heads at h
    split at h
    · rename_i e
      cases h
      rw [List.length_cons, List.length_cons, heads_len e]
    · cases h
inductive ZR (W : Wd) (h : Heap) : List Addr → List (List AV) → Prop
  | nil : ZR W h [] []
  | cons {it l : Addr} {vs us : List Value} {m : Nat} {xs : List AV} {its : List Addr} {ls : List (List AV)} : W.role l = .frz (listOf (vs ++ us).toArray m) → VRs W us xs → h.IsListIter it l vs.length → ZR W h its ls → ZR W h (it :: its) (xs :: ls)
theorem ZR.at {W W' : Wd} {h h' : Heap} (L : Le W W') : ∀ {its : List Addr} {ls : List (List AV)}, ZR W h its ls → (∀ a ∈ its, ∀ o, h.get? a = some o → h'.get? a = some o) → ZR W' h' its ls
  | _, _, .nil, _ => .nil
  | _, _, .cons h1 h2 ⟨o, h3, h4⟩ r, k => .cons (L.frz _ _ h1) (h2.mono L) ⟨o, k _ List.mem_cons_self o h3, h4⟩ (ZR.at L r fun a ha => k a (List.mem_cons_of_mem _ ha))
theorem ZR.alive {W : Wd} {h : Heap} : ∀ {its : List Addr} {ls : List (List AV)}, ZR W h its ls → ∀ a ∈ its, ∃ o, h.get? a = some o
  | _, _, .nil, _, h => by cases h
  | _, _, .cons h1 h2 ⟨o, h3, h4⟩ r, a, ha => by
    rcases List.mem_cons.mp ha with rfl | ha
    · exact ⟨o, h3⟩
    · exact r.alive a ha
theorem ZR.length {W : Wd} {h : Heap} : ∀ {its : List Addr} {ls : List (List AV)}, ZR W h its ls → its.length = ls.length
  | _, _, .nil => rfl
  | _, _, .cons h1 h2 h3 r => by rw [List.length_cons, List.length_cons, r.length]
theorem ZR.app {W : Wd} {h : Heap} : ∀ {a b : List Addr} {x y : List (List AV)}, ZR W h a x → ZR W h b y → ZR W h (a ++ b) (x ++ y)
  | _, _, _, _, .nil, k => k
  | _, _, _, _, .cons h1 h2 h3 r, k => .cons h1 h2 h3 (r.app k)
abbrev TupAt (h : Heap) (T : Addr) (vs : List Value) : Prop := h.get? T = some { cls := .type "tuple", data := .seq vs.toArray }
theorem forIn_list {M : Model} {A : Around} {E : Value → Shared → Prop} {α β : Type} {f : α → β → Sem (ForInStep β)} (I : List α → β → Shared → Prop) {Q : β → Shared → Prop}
    (step : ∀ a r b s, I (a :: r) b s → wpAny M A (f a b) (fun x s' => match x with | .yield b' => I r b' s' | .done b' => Q b' s') E s) (fin : ∀ b s, I [] b s → Q b s) :
    ∀ (l : List α) (b : β) (s : Shared), I l b s → wpAny M A (forIn l b f) Q E s
  | [], b, s, h => by rw [List.forIn_nil]; exact wpAny_pure (fin b s h)
  | a :: r, b, s, h => by
    rw [List.forIn_cons]
    refine wpAny_bind (wpAny_mono (step a r b s h) (fun x s' q => ?_) fun _ _ q => q)
    cases x with
    | yield b' => exact forIn_list I step fin r b' s' q
    | done b' => exact wpAny_pure q
theorem set_take {vs ws : List Value} {v : Value} {k : Nat} (hk : k < vs.length) (h : vs.take k = ws) : (vs.set k v).take (k + 1) = ws ++ [v] := by
  rw [List.take_add_one, List.take_set_of_le (Nat.le_refl _), h, List.getElem?_set_self hk]; rfl
theorem zip_next {A : Around} {E : Value → Shared → Prop} {s : Shared} {W : Wd} {st : AS} {z TI TO : Addr} {its : List Addr} {ls : List (List AV)} {kept : List Value} {Q : Value → Shared → Prop} (hh : A.handled = none) (H : HR c W st s.heap)
    (h0 : its ≠ []) (hz : IsZip s.heap z TI TO .none) (hTI : TupAt s.heap TI (its.map .ref)) (hTO : TupAt s.heap TO kept) (hlen : kept.length = its.length) (hZ : ZR W s.heap its ls) (hsz : its.length ≤ 1000)
    (nz : z ≠ TO) (nzi : z ∉ its) (nTi : TO ∉ its) (nd : its.Nodup) (rz : W.role z = .oth) (rT : W.role TO = .oth) (ri : ∀ a ∈ its, W.role a = .oth)
    (hQ : ∀ hs ts, heads ls = some (hs, ts) → ∀ h' vs, VRs W vs hs → IsZip h' z TI TO (rawInt s.heap.objs.size) → TupAt h' TO vs → TupAt h' s.heap.objs.size vs → ZR W h' its ts →
      (∀ a o, a ≠ z → a ≠ TO → a ∉ its → s.heap.get? a = some o → h'.get? a = some o) → Q (.ref s.heap.objs.size) { s with heap := h' })
    (hE : heads ls = .none → ∀ h' e, (∀ a o, a ≠ z → a ≠ TO → a ∉ its → s.heap.get? a = some o → h'.get? a = some o) → (∃ o, h'.get? e = some o ∧ o.cls = .type "StopIteration") → E (.ref e) { s with heap := h' }) :
    wpAny (model c.prog c.w) A (Builtin.«zip.__next__» ⟨[.ref z], []⟩) (fun fin s' => ∃ v, fin = .done (.ret v) ∧ Q v s') E s := by
  show wpAny _ _ (field (.ref z) 2 >>= _) _ _ _
  refine wpAny_bind (wpAny_field hz rfl (x := .bool false) rfl ?_)
  show wpAny _ _ (field (.ref z) 3 >>= _) _ _ _
  refine wpAny_bind (wpAny_field hz rfl (x := .ref TI) rfl ?_)
  refine wpAny_bind (wpAny_seqItems hTI rfl ?_)
  dsimp only
  rw [if_neg (by
    cases its with
    | nil => exact absurd rfl h0
    | cons a r => simp)]
  show wpAny _ _ (Builtin.SmallTypes.ownedTupleIsFree (.ref z) >>= _) _ _ _
  refine wpAny_bind ?_
  unfold Builtin.SmallTypes.ownedTupleIsFree
  refine wpAny_bind (wpAny_field hz rfl (x := .none) rfl (wpAny_pure ?_))
  simp only [if_true]
  refine wpAny_bind (wpAny_rule ?_)
  refine wpAny_bind (wpAny_field hz rfl (x := .ref TO) rfl ?_)
  refine wpAny_bind (wpAny_setField_rec hz (by simp) fun h₁ hz₁ hs₁ => ?_)
  replace hz₁ : IsZip h₁ z TI TO .ellipsis := hz₁
  refine wpAny_bind (forIn_list (fun rest r s' => r.1 = none ∧ ∃ done todo dl tl hd td ws kp h', s' = { s with heap := h' } ∧ its = done ++ todo ∧ ls = dl ++ tl ∧ rest = (todo.map Value.ref).zipIdx done.length ∧ heads dl = some (hd, td) ∧ VRs W ws hd ∧
    kp.length = its.length ∧ kp.take done.length = ws ∧ IsZip h' z TI TO .ellipsis ∧ TupAt h' TO kp ∧ ZR W h' done td ∧ ZR W h' todo tl ∧ h'.objs.size = s.heap.objs.size ∧ (∀ a o, a ≠ z → a ≠ TO → a ∉ its → s.heap.get? a = some o → h'.get? a = some o))
    (fun a r b s' hI => ?_) (fun b s' hI => ?_) _ _ _ ?_)
  · obtain ⟨hb, done, todo, dl, tl, hd, td, ws, kp, h', rfl, hits, hls, hrest, hheads, hws, hkl, hkt, hz', hTO', hZd, hZt, hsz', hk'⟩ := hI
    cases hZt with
    | nil => cases hrest
    | @cons it l vs us m xs todo' tl' hrole hvs hit hZr =>
      rw [List.map_cons, List.zipIdx_cons] at hrest
      cases hrest
      have hmem : it ∈ its := by rw [hits]; exact List.mem_append_right _ List.mem_cons_self
      have hL : h'.IsList l (vs ++ us).toArray := by
        refine ⟨_, hk' l _ (fun q => ?_) (fun q => ?_) (fun q => ?_) (H.frz _ _ hrole), rfl, _, rfl⟩
        · rw [q, rz] at hrole; cases hrole
        · rw [q, rT] at hrole; cases hrole
        · rw [ri l q] at hrole; cases hrole
      have hz_it : z ≠ it := fun q => nzi (q ▸ hmem)
      have hT_it : TO ≠ it := fun q => nTi (q ▸ hmem)
      refine wpAny_bind (wpAny_onRaise ?_)
      show wpAny _ _ (Builtin.SmallTypes.nextOf (.ref it) >>= _) _ _ _
      cases hvs with
      | nil =>
        have hx : (vs ++ ([] : List Value)).toArray[vs.length]? = none := by rw [List.append_nil, List.getElem?_toArray]; exact List.getElem?_eq_none (Nat.le_refl _)
        refine wpAny_bind (wpAny_nextOf_list_end hh hit hL hx fun h₂ e hs₂ he => ?_)
        obtain ⟨oe, hoe, hce⟩ := he
        have hz₂ : IsZip h₂ z TI TO .ellipsis := hs₂ _ _ hz_it hz'
        have hez : e ≠ z := fun x => by subst x; rw [hz₂] at hoe; cases hoe; simp at hce
        refine wpAny_setField_rec hz₂ (by simp) fun h₃ _ hs₃ => hE ?_ h₃ e (fun a o c1 c2 c3 x => hs₃.extBut _ _ c1 (hs₂ _ _ (fun q => c3 (q ▸ hmem)) (hk' a o c1 c2 c3 x))) ⟨oe, hs₃.extBut _ _ hez hoe, hce⟩
        rw [hls, heads_app dl _ hheads]
        simp only [heads]
      | @cons v us x xs hv hvs =>
        have hx : (vs ++ v :: us).toArray[vs.length]? = some v := by rw [List.getElem?_toArray, List.getElem?_append_right (Nat.le_refl _), Nat.sub_self]; rfl
        refine wpAny_bind (wpAny_nextOf_list_item hit hL hx fun h₂ hit₂ hs₂ => wpAny_pure ?_)
        have hTO₂ : TupAt h₂ TO kp := hs₂.extBut _ _ hT_it hTO'
        refine wpAny_bind (wpAny_seqItems hTO₂ rfl ?_)
        have hdl : done.length < kp.length := by rw [hkl, hits]; simp
        refine wpAny_bind (wpAny_updateSeq hTO₂ rfl ?_ (by rw [List.size_toArray, sizeLine_eq, hkl]; omega) (by rw [Array.size_setIfInBounds, List.size_toArray, sizeLine_eq, hkl]; omega))
        have hs₃ : Heap.SameBut TO h₂ (h₂.update TO (Obj.mapSeq (·.setIfInBounds done.length v))) := Heap.SameBut.update ..
        have hTO₃ : TupAt (h₂.update TO (Obj.mapSeq (·.setIfInBounds done.length v))) TO (kp.set done.length v) := by
          unfold TupAt
          rw [Heap.get?_update_self _ hTO₂ rfl]
          simp [Obj.mapSeq]
        refine wpAny_bind (wpAny_letGo (wpAny_pure ?_))
        have nd' := nd
        rw [hits] at nd'
        have nd2 := List.nodup_append.mp nd'
        refine ⟨rfl, done ++ [it], todo', dl ++ [x :: xs], tl', hd ++ [x], td ++ [xs], ws ++ [v], kp.set done.length v, _, rfl, by rw [hits]; simp, by rw [hls]; simp, by rw [List.length_append]; rfl, ?_, hws.append (.one hv), by rw [List.length_set, hkl], ?_, ?_, hTO₃, ?_, ?_, ?_, ?_⟩
        · rw [heads_app dl _ hheads]; rfl
        · rw [List.length_append]; exact set_take hdl hkt
        · exact hs₃.extBut _ _ nz (hs₂.extBut _ _ hz_it hz')
        · refine ZR.app (hZd.at (Le.refl W) fun a ha o e => hs₃.extBut _ _ (fun q => nTi (by rw [hits]; exact List.mem_append_left _ (q ▸ ha))) (hs₂.extBut _ _ (fun q => ?_) e)) ?_
          · exact nd2.2.2 a ha it List.mem_cons_self q
          · refine .cons (vs := vs ++ [v]) (us := us) (m := m) (l := l) (by rw [List.append_assoc]; exact hrole) hvs ?_ .nil
            rw [List.length_append]
            exact hit₂.extBut hs₃.extBut (Ne.symm hT_it)
        · refine hZr.at (Le.refl W) fun a ha o e => hs₃.extBut _ _ (fun q => nTi (by rw [hits]; exact List.mem_append_right _ (List.mem_cons_of_mem _ (q ▸ ha)))) (hs₂.extBut _ _ (fun q => ?_) e)
          exact (List.nodup_cons.mp nd2.2.1).1 (q ▸ ha)
        · show _ = _
          rw [hs₃.1, hs₂.1]; exact hsz'
        · exact fun a o c1 c2 c3 x => hs₃.extBut _ _ c2 (hs₂.extBut _ _ (fun q => c3 (q ▸ hmem)) (hk' a o c1 c2 c3 x))
  · obtain ⟨hb, done, todo, dl, tl, hd, td, ws, kp, h', rfl, hits, hls, hrest, hheads, hws, hkl, hkt, hz', hTO', hZd, hZt, hsz', hk'⟩ := hI
    cases hZt with
    | cons => cases hrest
    | nil =>
      rw [List.append_nil] at hits hls
      subst hits hls
      have hkw : kp = ws := by rw [← hkt, List.take_of_length_le (by omega)]
      subst hkw
      obtain ⟨b1, b2⟩ := b
      cases hb
      dsimp only
      refine wpAny_bind (wpAny_seqItems hTO' rfl ?_)
      refine wpAny_bind (wpAny_newTuple ?_ (by rw [List.toList_toArray, sizeLine_eq, hkl]; omega))
      dsimp only
      rw [hsz']
      show wpAny _ _ (Builtin.SmallTypes.ownedTupleHandOut (.ref z) (.ref s.heap.objs.size) >>= _) _ _ _
      refine wpAny_bind ?_
      unfold Builtin.SmallTypes.ownedTupleHandOut
      have hzlt : z < s.heap.objs.size := Heap.lt_size hz
      have hz₆ : IsZip (h'.push { cls := .type "tuple", data := .seq kp.toArray }) z TI TO .ellipsis := Heap.get?_push_of_some _ hz'
      refine wpAny_bind (wpAny_setField_rec hz₆ (by simp) fun h₇ hz₇ hs₇ => ?_)
      replace hz₇ : IsZip h₇ z TI TO (rawInt s.heap.objs.size) := hz₇
      refine wpAny_setField_rec hz₇ (by simp) fun h₈ hz₈ hs₈ => ?_
      replace hz₈ : IsZip h₈ z TI TO (rawInt s.heap.objs.size) := hz₈
      have up : ∀ a o, a ≠ z → h'.get? a = some o → h₈.get? a = some o := fun a o c1 e => hs₈.extBut _ _ c1 (hs₇.extBut _ _ c1 (Heap.get?_push_of_some _ e))
      have hT₈ : TupAt h₈ s.heap.objs.size kp := by
        have := Heap.get?_push_size h' (o := { cls := .type "tuple", data := .seq kp.toArray }) rfl
        rw [hsz'] at this
        exact hs₈.extBut _ _ (Nat.ne_of_gt hzlt) (hs₇.extBut _ _ (Nat.ne_of_gt hzlt) this)
      refine wpAny_pure ⟨_, rfl, ?_⟩
      exact hQ hd td hheads h₈ kp hws hz₈ (up _ _ (Ne.symm nz) hTO') hT₈ (hZd.at (Le.refl W) fun a ha o e => up a o (fun q => nzi (q ▸ ha)) e) fun a o c1 c2 c3 e => up a o c1 (hk' a o c1 c2 c3 e)
  · refine ⟨rfl, [], its, [], ls, [], [], [], kept, h₁, rfl, rfl, rfl, by simp, rfl, .nil, hlen, rfl, hz₁, hs₁.extBut _ _ (Ne.symm nz) hTO, .nil, hZ.at (Le.refl W) fun a ha o e => hs₁.extBut _ _ (fun q => nzi (q ▸ ha)) e, hs₁.1, fun a o c1 _ _ e => hs₁.extBut _ _ c1 e⟩
theorem pyNext_zip_item {A : Around} {E : Value → Shared → Prop} {s : Shared} {W : Wd} {st : AS} {z TI TO : Addr} {its : List Addr} {ls : List (List AV)} {kept : List Value} {Q : Option Value → Shared → Prop} (hh : A.handled = none) (H : HR c W st s.heap)
    (h0 : its ≠ []) (hz : IsZip s.heap z TI TO .none) (hTI : TupAt s.heap TI (its.map .ref)) (hTO : TupAt s.heap TO kept) (hlen : kept.length = its.length) (hZ : ZR W s.heap its ls) (hsz : its.length ≤ 1000)
    (nz : z ≠ TO) (nzi : z ∉ its) (nTi : TO ∉ its) (nd : its.Nodup) (rz : W.role z = .oth) (rT : W.role TO = .oth) (ri : ∀ a ∈ its, W.role a = .oth)
    (hQ : ∀ hs ts, heads ls = some (hs, ts) → ∀ h' vs, VRs W vs hs → IsZip h' z TI TO (rawInt s.heap.objs.size) → TupAt h' TO vs → TupAt h' s.heap.objs.size vs → ZR W h' its ts →
      (∀ a o, a ≠ z → a ≠ TO → a ∉ its → s.heap.get? a = some o → h'.get? a = some o) → Q (some (.ref s.heap.objs.size)) { s with heap := h' })
    (hE : heads ls = .none → ∀ h', (∀ a o, a ≠ z → a ≠ TO → a ∉ its → s.heap.get? a = some o → h'.get? a = some o) → Q none { s with heap := h' }) :
    wpAny (model c.prog c.w) A (pyNext (.ref z)) Q E s := by
  have hT : s.TypeIs (.ref z) "zip" := ⟨_, hz, rfl⟩
  unfold pyNext
  refine wpAny_bind (wpAny_attempt (wpAny_callSpecial?_slot (name := Str.ofString "__next__") hT PySem.F.slot_zip_next
    (wpAny_call_entry PySem.F.slot_zip_next hT PySem.F.entry_zip_next
      (zip_next hh H h0 hz hTI hTO hlen hZ hsz nz nzi nTi nd rz rT ri (fun hs ts e h' vs a1 a2 a3 a4 a5 a6 => wpAny_pure (hQ hs ts e h' vs a1 a2 a3 a4 a5 a6)) (fun e h' x hk he => ?_)) (PySem.F.args_zip_next_1 _))))
  obtain ⟨o, ho, hc⟩ := he
  refine wpAny_bind (wpAny_isInstance (T := "StopIteration") (b := true) ⟨o, ho, hc⟩ isSubtype_stop ?_)
  exact wpAny_pure (hE e _ hk)
structure JZ (z TI TO : Addr) (its : List Addr) (ls : List (List AV)) (W : Wd) (st : AS) (h : Heap) : Prop where
  at_ : IsZip h z TI TO .none ∧ TupAt h TI (its.map .ref) ∧ ZR W h its ls
  kp : ∃ kept, TupAt h TO kept ∧ kept.length = its.length
  zo : W.role z = .oth
  Io : W.role TI = .oth
  To : W.role TO = .oth
  io : ∀ a ∈ its, W.role a = .oth
theorem zip_itr {A : Around} (hr : Room n A) {z TI TO : Addr} {its : List Addr} (h0 : its ≠ []) (hsz : its.length ≤ 1000) (nz : z ≠ TO) (nTI : TI ≠ z) (nTT : TI ≠ TO) (nTi' : TI ∉ its) (nzi : z ∉ its) (nTi : TO ∉ its) (nd : its.Nodup) :
    Itr c A z (z :: TI :: TO :: its) (z :: TO :: its) goesU nxZ (JZ z TI TO its) where
  alive := fun ls W st h j b hb => by
    obtain ⟨h1, h2, h3⟩ := j.at_
    obtain ⟨kept, h4, _⟩ := j.kp
    rcases List.mem_cons.mp hb with rfl | hb
    · exact ⟨_, h1⟩
    · rcases List.mem_cons.mp hb with rfl | hb
      · exact ⟨_, h2⟩
      · rcases List.mem_cons.mp hb with rfl | hb
        · exact ⟨_, h4⟩
        · exact h3.alive b hb
  frame := fun own ls W W' st st' s s' hno j Iv x Iv' => by
    obtain ⟨h1, h2, h3⟩ := j.at_
    obtain ⟨kept, h4, h5⟩ := j.kp
    have mm : ∀ b, W.role b = .oth → ¬ W.Mut b := fun b q => by unfold Wd.Mut; rw [q]; exact fun q => q
    have kk : ∀ b ∈ (z :: TI :: TO :: its), W.role b = .oth → ∀ o, s.heap.get? b = some o → s'.heap.get? b = some o := fun b hb q o e => x.kept b o (mm b q) (hno b hb) e
    refine ⟨⟨kk z (by simp) j.zo _ h1, kk TI (by simp) j.Io _ h2, h3.at x.le fun a ha o e => kk a (by simp [ha]) (j.io a ha) o e⟩, ⟨kept, kk TO (by simp) j.To _ h4, h5⟩, x.oth _ _ h1 j.zo, x.oth _ _ h2 j.Io, x.oth _ _ h4 j.To, fun a ha => ?_⟩
    obtain ⟨o, ho⟩ := h3.alive a ha
    exact x.oth _ _ ho (j.io a ha)
  wrOk := fun ls W st h j b hb => by
    obtain ⟨h1, h2, h3⟩ := j.at_
    obtain ⟨kept, h4, _⟩ := j.kp
    rcases List.mem_cons.mp hb with rfl | hb
    · exact ⟨j.zo, _, h1⟩
    · rcases List.mem_cons.mp hb with rfl | hb
      · exact ⟨j.To, _, h4⟩
      · exact ⟨j.io b hb, h3.alive b hb⟩
  next := fun ls ls' x W st s tgt hg j Iv e' Q E hQ => by
    obtain ⟨h1, h2, h3⟩ := j.at_
    obtain ⟨kept, h4, h5⟩ := j.kp
    unfold nxZ at e'
    cases tgt with
    | Tuple elts k pos =>
      refine pyNext_zip_item hr.1 Iv h0 h1 h2 h4 h5 h3 hsz nz nzi nTi nd j.zo j.To j.io (fun hs ts e h' vs a1 a2 a3 a4 a5 a6 => ?_) (fun e => by rw [e] at e'; cases e')
      rw [e] at e'
      cases e'
      dsimp only
      have hT : s.heap.get? s.heap.objs.size = .none := get_none_of_ge (Nat.le_refl _)
      have ne : ∀ a o, s.heap.get? a = some o → a ≠ s.heap.objs.size := fun a o e => Nat.ne_of_lt (Heap.lt_size e)
      refine wpAny_letOwnedTupleGo_zip a2 fun h2' he2 hs2 => ?_
      have L : Le W (W.set s.heap.objs.size (.frz { cls := .type "tuple", data := .seq vs.toArray })) := Le.set (Iv.oth_of_none hT)
      have zT := ne z _ h1
      have tT := hs2.extBut _ _ (Ne.symm zT) a4
      have ro : ∀ a o, s.heap.get? a = some o → W.role a = .oth → (W.set s.heap.objs.size (.frz { cls := .type "tuple", data := .seq vs.toArray })).role a = .oth := fun a o e q => by rw [Wd.set_other (ne a o e)]; exact q
      refine hQ _ (.ref s.heap.objs.size) h2' s.toks (.inr ⟨_, _, hT, tT, rfl⟩) (.tup (vs := vs) Wd.set_self rfl rfl (a1.mono L)) ⟨⟨he2, ?_, ?_⟩, ⟨vs, hs2.extBut _ _ (Ne.symm nz) a3, ?_⟩, ro _ _ h1 j.zo, ro _ _ h2 j.Io, ro _ _ h4 j.To, fun a ha => ?_⟩ fun b o hb q => ?_
      · exact hs2.extBut _ _ nTI (a6 _ _ nTI nTT nTi' h2)
      · exact a5.at L fun a ha o e => hs2.extBut _ _ (fun q => nzi (q ▸ ha)) e
      · rw [a1.length, a5.length]; exact heads_len e
      · obtain ⟨o, ho⟩ := h3.alive a ha
        exact ro _ _ ho (j.io a ha)
      · refine hs2.extBut _ _ (fun z' => hb (by rw [z']; simp)) (a6 b o (fun z' => hb (by rw [z']; simp)) (fun z' => hb (by rw [z']; simp)) (fun z' => hb (by simp [z'])) q)
    | _ => cases hg
  stop := fun ls W st s j Iv e' Q E hQ => by
    obtain ⟨h1, h2, h3⟩ := j.at_
    obtain ⟨kept, h4, h5⟩ := j.kp
    unfold nxZ at e'
    refine pyNext_zip_item hr.1 Iv h0 h1 h2 h4 h5 h3 hsz nz nzi nTi nd j.zo j.To j.io (fun hs ts e => by rw [e] at e'; cases e') (fun e h' hk => ?_)
    exact hQ h' s.toks fun b o hb q => hk b o (fun z' => hb (by rw [z']; simp)) (fun z' => hb (by rw [z']; simp)) (fun z' => hb (by simp [z'])) q
  self := fun ls W st s j Q E hQ => wpAny_pyIter_zip j.at_.1 hQ
theorem typeCall_zip_3 (a b d : Value) : checkTypeCall "zip" ⟨[a, b, d], []⟩ = pure () := by kernel_rfl
theorem newCall_zip_3 (a b d : Value) : checkBuiltinCall "zip.__new__" ⟨[.type "zip", a, b, d], []⟩ = pure () := by kernel_rfl
theorem args_object_init_4 (a b d e : Value) : argsOk "object.__init__" ⟨[a, b, d, e], []⟩ := by
  unfold argsOk; rw [signature?_of (id := "object.__init__") (n := ['_', '_', 't', 'i', 'n', 'i', '_', '_']) (o := ['t', 'c', 'e', 'j', 'b', 'o']) (by kernel_rfl) PySem.F.owner_object]; kernel_rfl
abbrev z3H1 (h : Heap) (l1 : Addr) : Heap := h.push { cls := .type "list_iterator", data := .fields #[.ref l1, .int 0 0] }
abbrev z3H2 (h : Heap) (l1 l2 : Addr) : Heap := (z3H1 h l1).push { cls := .type "list_iterator", data := .fields #[.ref l2, .int 0 0] }
abbrev z3H3 (h : Heap) (l1 l2 l3 : Addr) : Heap := (z3H2 h l1 l2).push { cls := .type "list_iterator", data := .fields #[.ref l3, .int 0 0] }
abbrev z3H4 (h : Heap) (l1 l2 l3 : Addr) : Heap := (z3H3 h l1 l2 l3).push { cls := .type "tuple", data := .seq #[.ref h.objs.size, .ref (z3H1 h l1).objs.size, .ref (z3H2 h l1 l2).objs.size] }
abbrev z3H5 (h : Heap) (l1 l2 l3 : Addr) : Heap := (z3H4 h l1 l2 l3).push { cls := .type "tuple", data := .seq #[.none, .none, .none] }
abbrev z3H6 (h : Heap) (l1 l2 l3 : Addr) : Heap := (z3H5 h l1 l2 l3).push { cls := .type "zip", data := .fields #[.none, .bool false, .bool false, .ref (z3H3 h l1 l2 l3).objs.size, .ref (z3H4 h l1 l2 l3).objs.size] }
set_option maxHeartbeats 4000000 in
theorem meets_zip3 (l1 l2 l3 : Addr) (xs ys zs : Array Value) :
    Meets (Builtin.«zip.__new__» ⟨[.type "zip", .ref l1, .ref l2, .ref l3], []⟩) (fun _ R s => s.heap.IsList l1 xs ∧ s.heap.IsList l2 ys ∧ s.heap.IsList l3 zs ∧
      R (.ok (.ret (.ref (z3H5 s.heap l1 l2 l3).objs.size))) { s with heap := z3H6 s.heap l1 l2 l3 }) :=
  .of_wp fun prog w A R s h => by
    obtain ⟨hp, g, d, tk, os⟩ := s; obtain ⟨hl1, hl2, hl3, h⟩ := h
    have hsub := sub_zip
    have hL1 : Heap.IsList (Shared.heap ⟨hp, g, d, tk, os⟩) l1 xs := hl1
    have hL2 : Heap.IsList (Shared.heap ⟨hp.push { cls := .type "list_iterator", data := .fields #[.ref l1, .int 0 0] }, g, d, tk, os⟩) l2 ys := Heap.IsList.push hl2 _
    have hL3 : Heap.IsList (Shared.heap ⟨(hp.push { cls := .type "list_iterator", data := .fields #[.ref l1, .int 0 0] }).push { cls := .type "list_iterator", data := .fields #[.ref l2, .int 0 0] }, g, d, tk, os⟩) l3 zs := Heap.IsList.push (Heap.IsList.push hl3 _) _
    wp_walk using wpAny_pyIter_list hL1, wpAny_pyIter_list hL2, wpAny_pyIter_list hL3
    exact ⟨_, rfl, h⟩
theorem call_zip_3 {A : Around} {E : Value → Shared → Prop} {s : Shared} {l1 l2 l3 : Addr} {xs ys zs : Array Value} {Q : Value → Shared → Prop} (hl1 : s.heap.IsList l1 xs) (hl2 : s.heap.IsList l2 ys) (hl3 : s.heap.IsList l3 zs)
    (h : ∀ h', IsZip h' (s.heap.objs.size + 5) (s.heap.objs.size + 3) (s.heap.objs.size + 4) .none → TupAt h' (s.heap.objs.size + 3) [.ref s.heap.objs.size, .ref (s.heap.objs.size + 1), .ref (s.heap.objs.size + 2)] →
      TupAt h' (s.heap.objs.size + 4) [.none, .none, .none] → h'.IsListIter s.heap.objs.size l1 0 → h'.IsListIter (s.heap.objs.size + 1) l2 0 → h'.IsListIter (s.heap.objs.size + 2) l3 0 →
      (∀ c o, s.heap.get? c = some o → h'.get? c = some o) → Q (.ref (s.heap.objs.size + 5)) { s with heap := h' }) :
    wpAny (model c.prog c.w) A (call (.type "zip") [.ref l1, .ref l2, .ref l3]) Q E s := by
  refine callType_new PySem.F.called_zip (by decide) (typeCall_zip_3 _ _ _) (newCall_zip_3 _ _ _) (fun obj => args_object_init_4 obj _ _ _) PySem.F.entry_zip_new
    (meets_zip3 l1 l2 l3 xs ys zs) ⟨hl1, hl2, hl3, ?_⟩
  have z1 : (z3H1 s.heap l1).objs.size = s.heap.objs.size + 1 := Heap.size_push ..
  have z2 : (z3H2 s.heap l1 l2).objs.size = s.heap.objs.size + 2 := by rw [Heap.size_push, z1]
  have z3 : (z3H3 s.heap l1 l2 l3).objs.size = s.heap.objs.size + 3 := by rw [Heap.size_push, z2]
  have z4 : (z3H4 s.heap l1 l2 l3).objs.size = s.heap.objs.size + 4 := by rw [Heap.size_push, z3]
  have z5 : (z3H5 s.heap l1 l2 l3).objs.size = s.heap.objs.size + 5 := by rw [Heap.size_push, z4]
  have g6 : (z3H6 s.heap l1 l2 l3).get? (z3H5 s.heap l1 l2 l3).objs.size = some _ := Heap.get?_push_size _ rfl
  have g5 : (z3H6 s.heap l1 l2 l3).get? (z3H4 s.heap l1 l2 l3).objs.size = some _ := Heap.get?_push_of_some _ (Heap.get?_push_size _ rfl)
  have g4 : (z3H6 s.heap l1 l2 l3).get? (z3H3 s.heap l1 l2 l3).objs.size = some _ := Heap.get?_push_of_some _ (Heap.get?_push_of_some _ (Heap.get?_push_size _ rfl))
  have g3 : (z3H6 s.heap l1 l2 l3).get? (z3H2 s.heap l1 l2).objs.size = some _ := Heap.get?_push_of_some _ (Heap.get?_push_of_some _ (Heap.get?_push_of_some _ (Heap.get?_push_size _ rfl)))
  have g2 : (z3H6 s.heap l1 l2 l3).get? (z3H1 s.heap l1).objs.size = some _ := Heap.get?_push_of_some _ (Heap.get?_push_of_some _ (Heap.get?_push_of_some _ (Heap.get?_push_of_some _ (Heap.get?_push_size _ rfl))))
  have g1 : (z3H6 s.heap l1 l2 l3).get? s.heap.objs.size = some _ := Heap.get?_push_of_some _ (Heap.get?_push_of_some _ (Heap.get?_push_of_some _ (Heap.get?_push_of_some _ (Heap.get?_push_of_some _ (Heap.get?_push_size _ rfl)))))
  show _ ∧ _
  rw [z3, z4, z5] at g6
  rw [z1, z2, z3] at g4
  rw [z4] at g5
  rw [z2] at g3
  rw [z1] at g2
  rw [z5]
  exact ⟨⟨_, g6, rfl⟩, h _ g6 g4 g5 ⟨_, g1, rfl, rfl⟩ ⟨_, g2, rfl, rfl⟩ ⟨_, g3, rfl, rfl⟩ fun c o x =>
    Heap.get?_push_of_some _ (Heap.get?_push_of_some _ (Heap.get?_push_of_some _ (Heap.get?_push_of_some _ (Heap.get?_push_of_some _ (Heap.get?_push_of_some _ x)))))⟩
noncomputable def zipIt : List AV → Cm (List (List AV)) := fun xs => match xs with
  | [.lst a, .lst b] => pu [a, b]
  | [.lst a, .lst b, .lst d] => pu [a, b, d]
  | _ => no
theorem VR.inv_lst {W : Wd} {v : Value} {xs : List AV} (h : VR W v (.lst xs)) : ∃ a vs m, v = .ref a ∧ W.role a = .frz (listOf vs.toArray m) ∧ VRs W vs xs := by
  cases h with
  | lst h1 h2 => exact ⟨_, _, _, rfl, h1, h2⟩
theorem zip_start {p : Pl} (hr : Room n p.A) {W W1 : Wd} {st : AS} {s s1 : Shared} (x1 : Ext p.Own W s W1 s1) (I1 : Inv c p W1 st s1) {h' : Heap} {k : Nat} {its : List Addr} {ls : List (List AV)} {E : Value → Shared → Prop} {Q : Value → Shared → Prop}
    (hits : its = (List.range k).map fun j => s1.heap.objs.size + j) (hk0 : 0 < k) (hk : k ≤ 10) {kept : List Value} (hkl : kept.length = k)
    (hz : IsZip h' (s1.heap.objs.size + (k + 2)) (s1.heap.objs.size + k) (s1.heap.objs.size + (k + 1)) .none) (hTI : TupAt h' (s1.heap.objs.size + k) (its.map .ref)) (hTO : TupAt h' (s1.heap.objs.size + (k + 1)) kept) (hZ : ZR W1 h' its ls)
    (kk : ∀ c o, s1.heap.get? c = some o → h'.get? c = some o)
    (hQ : ∀ W' s' I fp wr J, Ext p.Own W s W' s' → Inv c p W' st s' → Itr c p.A I fp wr goesU nxZ J → J ls W' st s'.heap → (∀ b ∈ wr, s.heap.get? b = .none) → (∀ b ∈ fp, ¬ p.Own b) → Q (.ref I) s') :
    wpAny (model c.prog c.w) p.A (pyIter (.ref (s1.heap.objs.size + (k + 2)))) Q E { s1 with heap := h' } := by
  have x2 : Ext p.Own W1 s1 W1 { s1 with heap := h' } := Ext.keeps _ _ kk rfl rfl
  have hn : ∀ j, s1.heap.get? (s1.heap.objs.size + j) = .none := fun j => get_none_of_ge (Nat.le_add_right _ _)
  have mi : ∀ a, a ∈ its → ∃ j, j < k ∧ a = s1.heap.objs.size + j := fun a ha => by
    rw [hits] at ha
    obtain ⟨j, hj, rfl⟩ := List.mem_map.mp ha
    exact ⟨j, List.mem_range.mp hj, rfl⟩
  have hnew : ∀ b, b ∈ ((s1.heap.objs.size + (k + 2)) :: (s1.heap.objs.size + k) :: (s1.heap.objs.size + (k + 1)) :: its) → s1.heap.get? b = .none := fun b hb => by
    simp only [List.mem_cons] at hb
    rcases hb with rfl | rfl | rfl | hb
    · exact hn _
    · exact hn _
    · exact hn _
    · obtain ⟨j, _, rfl⟩ := mi b hb; exact hn _
  have ilen : its.length = k := by rw [hits]; simp
  have hA : ∀ i j : Nat, i ≠ j → s1.heap.objs.size + i ≠ s1.heap.objs.size + j := fun i j h q => h (Nat.add_left_cancel q)
  refine wpAny_pyIter_zip hz (hQ W1 _ (s1.heap.objs.size + (k + 2)) _ _ _ (x1.trans x2) (I1.keeps kk) (zip_itr (TI := s1.heap.objs.size + k) (TO := s1.heap.objs.size + (k + 1)) (its := its) hr (fun q => by rw [q] at ilen; simp at ilen; omega) (by omega) (hA _ _ (by omega)) (hA _ _ (by omega)) (hA _ _ (by omega)) (fun q => ?_) (fun q => ?_) (fun q => ?_) ?_)
    ⟨⟨hz, hTI, hZ⟩, ⟨kept, hTO, by omega⟩, I1.hr.oth_of_none (hn _), I1.hr.oth_of_none (hn _), I1.hr.oth_of_none (hn _), fun a ha => ?_⟩ (fun b hb => ?_) (fun b hb => I1.fresh_own (hnew b hb)))
  · obtain ⟨j, h1, h2⟩ := mi _ q; exact hA _ _ (by omega) h2
  · obtain ⟨j, h1, h2⟩ := mi _ q; exact hA _ _ (by omega) h2
  · obtain ⟨j, h1, h2⟩ := mi _ q; exact hA _ _ (by omega) h2
  · rw [hits]
    exact List.Pairwise.map _ (fun a b (q : a ≠ b) => hA _ _ q) List.nodup_range
  · obtain ⟨j, _, rfl⟩ := mi a ha; exact I1.hr.oth_of_none (hn _)
  · have hb' : s1.heap.get? b = .none := hnew b (by
      simp only [List.mem_cons] at hb ⊢
      rcases hb with rfl | rfl | hb
      · exact .inl rfl
      · exact .inr (.inr (.inl rfl))
      · exact .inr (.inr (.inr hb)))
    cases z : s.heap.get? b with
    | none => rfl
    | some o => obtain ⟨o1, z1⟩ := x1.alive _ o z; rw [hb'] at z1; cases z1
theorem ImplI.zip (G : Gd c) {x : Str} {p0 pos : Pos} {es : List Expr} {fs : Cm (List AV)} (hx : sx.sc.names.lookup x = some .globalImplicit) (hg : c.Glob x (.type "zip")) (h : ImplEs c n sx es fs) (hd : (x == ("__debug__" : Str)) = false := by decide) (hp : es.all plainX = true := by rfl) :
    ImplI c n sx (.Call (.Name x p0) es [] pos) goesU (bd fs zipIt) nxZ := by
  intro p hsx hr W st s I xs st' e Q E hQ
  obtain ⟨ys, st1, e1, e2⟩ := bd_some e
  refine Call_ (load_glob G I (by rw [hsx]; exact hx) hg hd ?_)
  refine PyProof.Rows.callWith_type (any_false hp) (evalArgs_row hp ?_)
  refine h p hsx hr W pos W st s (Le.refl _) I ys st1 e1 _ E fun W1 vs s1 x1 I1 r1 => ?_
  unfold zipIt at e2
  split at e2
  · cases e2
    cases r1 with
    | cons r1 r1' =>
      cases r1' with
      | cons r2 r2' =>
        cases r2'
        obtain ⟨a1, v1, m1, rfl, f1, g1⟩ := r1.inv_lst
        obtain ⟨a2, v2, m2, rfl, f2, g2⟩ := r2.inv_lst
        refine call_zip_2 (I1.hr.isList f1) (I1.hr.isList f2) fun h' q1 q2 q3 q4 q5 _ kk => ?_
        exact zip_start (k := 2) (its := [s1.heap.objs.size, s1.heap.objs.size + 1]) (kept := [.none, .none]) hr x1 I1 (by simp [List.range_succ]) (by decide) (by decide) rfl q1 q2 q3 (.cons (vs := []) f1 g1 q4 (.cons (vs := []) f2 g2 q5 .nil)) kk hQ
  · cases e2
    cases r1 with
    | cons r1 r1' =>
      cases r1' with
      | cons r2 r2' =>
        cases r2' with
        | cons r3 r3' =>
          cases r3'
          obtain ⟨a1, v1, m1, rfl, f1, g1⟩ := r1.inv_lst
          obtain ⟨a2, v2, m2, rfl, f2, g2⟩ := r2.inv_lst
          obtain ⟨a3, v3, m3, rfl, f3, g3⟩ := r3.inv_lst
          refine call_zip_3 (I1.hr.isList f1) (I1.hr.isList f2) (I1.hr.isList f3) fun h' q1 q2 q3 q4 q5 q6 kk => ?_
          exact zip_start (k := 3) (its := [s1.heap.objs.size, s1.heap.objs.size + 1, s1.heap.objs.size + 2]) (kept := [.none, .none, .none]) hr x1 I1 (by simp [List.range_succ]) (by decide) (by decide) rfl q1 q2 q3 (.cons (vs := []) f1 g1 q4 (.cons (vs := []) f2 g2 q5 (.cons (vs := []) f3 g3 q6 .nil))) kk hQ
  · cases e2
end
end Mine

namespace Mine

section
variable {c : Cx} {n : Nat} {sx : Sx}

end
end Mine

namespace Mine

section
variable {c : Cx} {n : Nat} {sx : Sx}

end
end Mine

namespace Mine

theorem valueAt_stored (kvs : List (Int × Value)) (k : Int) (v : Value) (j : Int) : valueAt (stored kvs k v) j = if j = k then some v else valueAt kvs j := by
  unfold stored
  have hf : ∀ l : List (Int × Value), valueAt (l.map fun kv => if kv.1 = k then (kv.1, v) else kv) j = if j = k then (valueAt l j).map fun _ => v else valueAt l j := by
    intro l
    induction l with
    | nil => simp [valueAt]
    | cons a l ih =>
      unfold valueAt at ih ⊢
      rw [List.map_cons, List.find?_cons, List.find?_cons]
      by_cases q1 : a.1 = k
      · by_cases q2 : a.1 = j
        · simp [q1, ← q2]
        · have q3 : ¬ j = k := fun z => q2 (q1.trans z.symm)
          simp only [q1, if_true] at ih ⊢
          rw [← q1] 
          simp only [q2, decide_false]
          rw [if_neg (fun z : j = a.1 => q2 z.symm)]
          rw [if_neg q3] at ih
          rw [← q1] at ih
          exact ih
      · simp only [if_neg q1]
        by_cases q2 : a.1 = j
        · have q3 : ¬ j = k := fun z => q1 (q2.trans z)
          simp [q2, q3]
        · simp only [q2, decide_false]; exact ih
  by_cases q : kvs.any (fun kv => kv.1 = k) = true
  · rw [if_pos q, hf]
    by_cases z : j = k
    · subst z
      rw [if_pos rfl, if_pos rfl]
      unfold valueAt
      cases y : kvs.find? fun kv => decide (kv.1 = j) with
      | none =>
        obtain ⟨a, ha, hb⟩ := List.any_eq_true.mp q
        have := List.find?_eq_none.mp y a ha
        exact absurd hb this
      | some a => rfl
    · rw [if_neg z, if_neg z]
  · rw [if_neg q]
    unfold valueAt
    rw [List.find?_append]
    by_cases z : j = k
    · subst z
      have y : kvs.find? (fun kv => decide (kv.1 = j)) = .none := List.find?_eq_none.mpr fun a ha hb => q (List.any_eq_true.mpr ⟨a, ha, hb⟩)
      simp [y]
    · rw [if_neg z]
      have z' : ¬ k = j := fun w => z w.symm
      simp [z']
section
variable {c : Cx} {n : Nat} {sx : Sx}

structure Dct (c : Cx) (W : Wd) (h : Heap) (D : Addr) (m : Nat) (t : Int → Option AV) : Prop where
  role : W.role D = .oth
  at_ : ∃ kvs : List (Int × Value), h.DictOf (intKind c.prog c.w) D kvs ∧ kvs.length ≤ m ∧ ∀ j, (t j = .none → valueAt kvs j = .none) ∧ ∀ x, t j = some x → ∃ v, valueAt kvs j = some v ∧ VR W v x
theorem Dct.ext {W W' : Wd} {s s' : Shared} {D : Addr} {m : Nat} {t : Int → Option AV} {own : Addr → Prop} (d : Dct c W s.heap D m t) (x : Ext own W s W' s') (ho : ¬ own D) : Dct c W' s'.heap D m t := by
  obtain ⟨kvs, ⟨o, es, ep, e, r⟩, h2, h3⟩ := d.at_
  refine ⟨x.oth D o e d.role, kvs, ⟨o, es, ep, x.kept D o (by unfold Wd.Mut; rw [d.role]; exact fun q => q) ho e, r⟩, h2, fun j => ⟨(h3 j).1, fun y q => ?_⟩⟩
  obtain ⟨v, e1, e2⟩ := (h3 j).2 y q
  exact ⟨v, e1, e2.mono x.le⟩
theorem Dct.at' {W W' : Wd} {h h' : Heap} {D : Addr} {m : Nat} {t : Int → Option AV} (d : Dct c W h D m t) (L : Le W W') (hr : W'.role D = .oth) (k : ∀ o, h.get? D = some o → h'.get? D = some o) : Dct c W' h' D m t := by
  obtain ⟨kvs, ⟨o, es, ep, e, r⟩, h2, h3⟩ := d.at_
  refine ⟨hr, kvs, ⟨o, es, ep, k o e, r⟩, h2, fun j => ⟨(h3 j).1, fun y q => ?_⟩⟩
  obtain ⟨v, e1, e2⟩ := (h3 j).2 y q
  exact ⟨v, e1, e2.mono L⟩
theorem Dct.alive {W : Wd} {h : Heap} {D : Addr} {m : Nat} {t : Int → Option AV} (d : Dct c W h D m t) : ∃ o, h.get? D = some o := by
  obtain ⟨kvs, ⟨o, es, ep, e, r⟩, h2, h3⟩ := d.at_
  exact ⟨o, e⟩
theorem Inv.weak {p : Pl} {W : Wd} {st : AS} {s : Shared} {l : List AV} (I : Inv c p W { st with loc := l } s) (l' : List AV) (key : ∀ (j : Nat) (w : AV), l'[j]? = some w → w ≠ .unb → l[j]? = some w) : Inv c p W { st with loc := l' } s := by
  refine ⟨I.hr.loc l', ?_⟩
  obtain ⟨⟨ml, h1, h2⟩, h3, h4, h5, h6, h7, h8, h9, h10, h11, h12, h13, h14, h15, h16⟩ := I.fr
  exact ⟨⟨ml, h1, fun j x w a1 a2 a3 a4 => h2 j x w a1 (key j w a2 a3) a3 a4⟩, fun j x w a1 a2 a3 a4 => h3 j x w a1 (key j w a2 a3) a3 a4, h4, h5, h6, h7, h8, h9, h10, h11, h12, h13, h14, h15, h16⟩
theorem iter_list {e : Expr} {f : Cm AV} (h : ImplE c n sx e f) : ∀ p : Pl, p.sx = sx → Room n p.A → ∀ W st s, Inv c p W st s → ∀ xs st', bd f lstIt st = some (xs, st') → ∀ (Q : Value → Shared → Prop) (E : Value → Shared → Prop),
    (∀ W' s' I fp wr J, Ext p.Own W s W' s' → Inv c p W' st' s' → Itr c p.A I fp wr goesT nxL J → J xs W' st' s'.heap → (∀ b ∈ wr, s.heap.get? b = .none) → (∀ b ∈ fp, ¬ p.Own b) → (∀ b ∈ fp, (∃ o, W'.role b = .frz o) ∨ s.heap.get? b = .none) → Q (.ref I) s') →
    wpAny (model c.prog c.w) p.A (eval e p.env) (fun x s1 => wpAny (model c.prog c.w) p.A (pyIter x) Q E s1) E s := by
  intro p hsx hr W st s I xs st' e Q E hQ
  obtain ⟨x, st1, e1, e2⟩ := bd_some e
  refine h p hsx hr W W st s (Le.refl _) I x st1 e1 _ E fun W1 v s1 x1 I1 r1 => ?_
  cases r1 with
  | @lst a vs m _ hrole hvs =>
    cases e2
    have L := I1.hr.isList hrole
    have hn : s1.heap.get? s1.heap.objs.size = .none := get_none_of_ge (Nat.le_refl _)
    have ha := I1.hr.frz _ _ hrole
    have hne : a ≠ s1.heap.objs.size := Nat.ne_of_lt (Heap.lt_size ha)
    have hold : s.heap.get? s1.heap.objs.size = .none := by
      cases z : s.heap.get? s1.heap.objs.size with
      | none => rfl
      | some o => obtain ⟨o1, z1⟩ := x1.alive _ o z; rw [hn] at z1; cases z1
    refine wpAny_pyIter_list L ?_
    have k2 : ∀ b o, s1.heap.get? b = some o → (s1.heap.push { cls := .type "list_iterator", data := .fields #[.ref a, .int 0 0] }).get? b = some o := fun _ _ e => Heap.get?_push_of_some _ e
    have x2 : Ext p.Own W1 s1 W1 { s1 with heap := s1.heap.push { cls := .type "list_iterator", data := .fields #[.ref a, .int 0 0] } } := Ext.keeps _ _ k2 rfl rfl
    have Wk := Walks.list (prog := c.prog) (w := c.w) (A := p.A) hr.1 s1.heap.objs.size a hne vs.toArray
    refine hQ W1 _ s1.heap.objs.size [s1.heap.objs.size, a] [s1.heap.objs.size] _ (x1.trans x2) (I1.keeps k2) (itr_walks Wk (fun i hh q b hb => ?_) (fun i s v tgt Q E hg q hq => go_listiter hg q.1 hq)) ⟨⟨0, ?_, ⟨⟨_, Heap.get?_push_size _ rfl, rfl, rfl⟩, L.push _⟩, fun k v y q1 q2 => ?_⟩, fun b hb => ?_, fun b hb => ?_⟩ (fun b hb => ?_) (fun b hb => ?_) (fun b hb => ?_)
    · rcases List.mem_cons.mp hb with rfl | hb
      · obtain ⟨o, ho, _⟩ := q.1; exact ⟨o, ho⟩
      · rw [List.mem_singleton.mp hb]; obtain ⟨o, ho, _⟩ := q.2; exact ⟨o, ho⟩
    · rw [List.size_toArray, hvs.length, Nat.zero_add]
    · rw [Nat.zero_add, List.getElem?_toArray] at q2
      obtain ⟨x', e', r'⟩ := hvs.getv q2
      rw [q1] at e'; cases e'; exact r'
    · rcases List.mem_cons.mp hb with rfl | hb
      · exact ⟨by unfold Wd.Mut; rw [I1.hr.oth_of_none hn]; exact fun q => q, _, Heap.get?_push_size _ rfl⟩
      · rw [List.mem_singleton.mp hb]; exact ⟨(I1.frz_own hrole).2, _, k2 _ _ ha⟩
    · rw [List.mem_singleton.mp hb]; exact I1.hr.oth_of_none hn
    · rw [List.mem_singleton.mp hb]; exact hold
    · rcases List.mem_cons.mp hb with q | hb
      · rw [q]; exact I1.fresh_own hn
      · rw [List.mem_singleton.mp hb]; exact (I1.frz_own hrole).1
    · rcases List.mem_cons.mp hb with q | hb
      · rw [q]; exact .inr hold
      · rw [List.mem_singleton.mp hb]; exact .inl ⟨_, hrole⟩
  | _ => cases e2
noncomputable def keyOf (st : AS) (x : AV) : Option Int := match getItemM x (.int 1) st with
  | some (.int k, _) => some k
  | _ => .none
theorem items_loc (x : AV) (st : AS) (l : List AV) : itemsM x { st with loc := l } = match itemsM x st with | some (xs, _) => some (xs, { st with loc := l }) | .none => .none := by
  cases x <;> simp only [itemsM]
  split <;> rfl
theorem getItem_loc (x : AV) (i : Int) (st : AS) (l : List AV) : getItemM x (.int i) { st with loc := l } = match getItemM x (.int i) st with | some (v, _) => some (v, { st with loc := l }) | .none => .none := by
  have g : ∀ xs : List AV, (if xs.length ≤ 100000 then (match idxM xs i with | some v => some (v, { st with loc := l }) | .none => .none) else (.none : Option (AV × AS))) = match (if xs.length ≤ 100000 then (match idxM xs i with | some v => some (v, st) | .none => .none) else (.none : Option (AV × AS))) with | some (v, _) => some (v, { st with loc := l }) | .none => .none := by
    intro xs
    by_cases z : xs.length ≤ 100000
    · simp only [if_pos z]; cases idxM xs i <;> rfl
    · simp only [if_neg z]
  cases x with
  | tup xs => exact g xs
  | lst xs => exact g xs
  | lob k =>
    simp only [getItemM, itemsM]
    cases getL1 k st.lst with
    | none => rfl
    | some xs => exact g xs
  | _ => rfl
theorem key_loc (x : AV) (st : AS) (l : List AV) : keyOf { st with loc := l } x = keyOf st x := by
  unfold keyOf
  rw [getItem_loc]
  cases getItemM x (.int 1) st with
  | none => rfl
  | some q => obtain ⟨v, s⟩ := q; cases v <;> rfl
theorem getItem_state {x : AV} {i : Int} {st st' : AS} {v : AV} (h : getItemM x (.int i) st = some (v, st')) : st' = st := by
  have g : ∀ xs : List AV, (if xs.length ≤ 100000 then (match idxM xs i with | some v => some (v, st) | .none => .none) else (.none : Option (AV × AS))) = some (v, st') → st' = st := fun xs h => by
    by_cases z : xs.length ≤ 100000
    · rw [if_pos z] at h
      cases w : idxM xs i <;> rw [w] at h <;> cases h
      rfl
    · rw [if_neg z] at h; cases h
  have h2 : ∀ y : AV, (match itemsM y st with | some (xs, _) => if xs.length ≤ 100000 then (match idxM xs i with | some v => some (v, st) | .none => .none) else .none | .none => (.none : Option (AV × AS))) = some (v, st') → st' = st := fun y h => by
    cases w : itemsM y st with
    | none => rw [w] at h; cases h
    | some q => rw [w] at h; exact g _ h
  have h3 : (∃ xs, x = .tup xs) ∨ getItemM x (.int i) st = (match itemsM x st with | some (xs, _) => if xs.length ≤ 100000 then (match idxM xs i with | some v => some (v, st) | .none => .none) else .none | .none => (.none : Option (AV × AS))) := by
    cases x <;> first | exact .inl ⟨_, rfl⟩ | exact .inr rfl
  rcases h3 with ⟨xs, rfl⟩ | h3
  · exact g xs h
  · exact h2 x (h3.symm.trans h)
theorem key_get {x : AV} {st : AS} {k : Int} (h : keyOf st x = some k) : getItemM x (.int 1) st = some (.int k, st) := by
  unfold keyOf at h
  split at h
  · rename_i k' st' q; cases h; have := getItem_state q; subst this; exact q
  · cases h
noncomputable def tab (st : AS) : List AV → (Int → Option AV) → Int → Option AV
  | [], t => t
  | x :: r, t => tab st r (fun j => if keyOf st x = some j then some x else t j)
noncomputable def tableM (i j q : Nat) (fit : Cm (List AV)) (body rest : Cm AF) : Cm AF := fun st => match fit st, var q st with
  | some (xs, _), some (.int k, _) =>
    if xs.length ≤ 100000 ∧ xs.all (fun x => (keyOf st x).isSome) = true ∧ i < st.loc.length ∧ j < st.loc.length then
      (match tab st xs (fun _ => .none) k with
      | some x => thenM body rest { st with loc := (st.loc.set i .unb).set j x }
      | .none => rest { st with loc := (st.loc.set i .unb).set j .unb })
    else .none
  | _, _ => .none
theorem ImplS.table (G : Gd c) {x y z : Str} {i j q : Nat} (hi : sx.vars[i]? = some x) (hiw : sx.wr[i]? = some x) (hj : sx.vars[j]? = some y) (hjw : sx.wr[j]? = some y) (hq : sx.vars[q]? = some z) (hij : i ≠ j) (hiq : i ≠ q) (hjq : j ≠ q)
    {p1 p2 p3 p4 p5 p6 p7 p8 p9 p10 p11 p12 p13 p14 p15 p16 p17 p18 p19 p20 p21 : Pos} {k7 : Nat} {iter : Expr} {fi : Cm AV} {body rest : Cm AF} {bs ts : List Stmt} (h0 : ImplE c n sx iter fi)
    (hf : ∀ st xs st', bd fi lstIt st = some (xs, st') → st' = st ∧ ∀ v, bd fi lstIt { st with loc := st.loc.set i v } = some (xs, { st with loc := st.loc.set i v }))
    (hb : ImplS c n sx bs body) (ht : ImplS c n sx ts rest)
    (hdx : (x == ("__debug__" : Str)) = false := by decide +kernel) (hdy : (y == ("__debug__" : Str)) = false := by decide +kernel) (hdz : (z == ("__debug__" : Str)) = false := by decide +kernel)
    (u1 : swapsWithSole [.Name x p1] (.Dict [] [] p2) p3.line (envS sx.sc) = pure false := by rfl) (u2 : swappedStores [.Name x p1] (.Dict [] [] p2) (envS sx.sc) = pure .none := by rfl)
    (u3 : swapsWithSole [.Subscript (.Name x p5) (.Subscript (.Name y p6) (.Constant (.int 1) k7 p7) p8) p9] (.Name y p10) p11.line (envS sx.sc) = pure false := by rfl) (u4 : swappedStores [.Subscript (.Name x p5) (.Subscript (.Name y p6) (.Constant (.int 1) k7 p7) p8) p9] (.Name y p10) (envS sx.sc) = pure .none := by rfl)
    (u5 : swapsWithSole [.Name y p16] (.Subscript (.Name x p17) (.Name z p18) p19) p20.line (envS sx.sc) = pure false := by rfl) (u6 : swappedStores [.Name y p16] (.Subscript (.Name x p17) (.Name z p18) p19) (envS sx.sc) = pure .none := by rfl)
    (hs : ∀ env x, foldedSetIterable iter env x = pure x := by intro _ _; rfl) :
    ImplS c n sx (.Assign [.Name x p1] (.Dict [] [] p2) p3 :: .For (.Name y p4) iter [.Assign [.Subscript (.Name x p5) (.Subscript (.Name y p6) (.Constant (.int 1) k7 p7) p8) p9] (.Name y p10) p11] [] p12
      :: .If (.Compare (.Name z p13) [.In] [.Name x p14] p15) (.Assign [.Name y p16] (.Subscript (.Name x p17) (.Name z p18) p19) p20 :: bs) [] p21 :: ts) (tableM i j q (bd fi lstIt) body rest) := by
  intro p hsx hr W0 W st s hle I b st' e Q E hQ
  have hsc : p.env.scope = sx.sc := by rw [I.fr.scope, hsx]
  unfold tableM at e
  split at e
  · rename_i xs stf k stq efit evq
    split at e
    · rename_i hcond
      obtain ⟨hlen, hkeys, hil, hjl⟩ := hcond
      obtain ⟨-, hfit⟩ := hf _ _ _ efit
      subst hsx
      have hnD : s.heap.get? s.heap.objs.size = .none := get_none_of_ge (Nat.le_refl _)
      have hD0 := I.hr.base_none hnD
      have hDo := I.fresh_own hnD
      have hDL : s.heap.objs.size ≠ p.env.locals := fun w => by
        obtain ⟨ml, ⟨o1, es, ep, ho, _⟩, _⟩ := I.fr.ns
        rw [← w, hnD] at ho; cases ho
      have hDC : ∀ y, p.env.cells.lookup y ≠ some s.heap.objs.size := fun y w => by
        obtain ⟨v', o1, ho, _⟩ := I.fr.cells y _ w
        rw [hnD] at ho; cases ho
      have hDsys : (s.heap.objs.size == sysModules) = false := by
        obtain ⟨o1, es, ep, ho, _⟩ := G.g.keeps I.hr.keep
        have := Heap.lt_size ho
        rw [beq_eq_false_iff_ne]
        intro w
        rw [w] at this
        exact absurd this (by decide)
      generalize hDD : s.heap.objs.size = D at *
      obtain ⟨ifs, hifs⟩ : ∃ l : List Stmt, l = (.If (.Compare (.Name z p13) [.In] [.Name x p14] p15) (.Assign [.Name y p16] (.Subscript (.Name x p17) (.Name z p18) p19) p20 :: bs) [] p21 :: ts) := ⟨_, rfl⟩
      obtain ⟨bdy, hbdy⟩ : ∃ l : List Stmt, l = [.Assign [.Subscript (.Name x p5) (.Subscript (.Name y p6) (.Constant (.int 1) k7 p7) p8) p9] (.Name y p10) p11] := ⟨_, rfl⟩
      rw [← hifs, ← hbdy]
      refine wpAny_execs_cons (wpAny_Assign_stores (wpAny_Dict_empty ?_) (by rw [swaps_static hsc]; exact u1) (by rw [stores_static hsc]; exact u2))
      rw [assignAll_one rfl, hDD]
      have k1 : ∀ b o, s.heap.get? b = some o → (s.heap.push { cls := .type "dict", data := .dict #[] }).get? b = some o := fun _ _ e => Heap.get?_push_of_some _ e
      have x1 : Ext p.Own W s W { s with heap := s.heap.push { cls := .type "dict", data := .dict #[] } } := Ext.keeps _ _ k1 rfl rfl
      have d1 : Dct c W (s.heap.push { cls := .type "dict", data := .dict #[] }) D 0 (fun _ => .none) := ⟨I.hr.oth_of_none hnD, [], hDD ▸ Heap.DictOf.new s.heap, Nat.le_refl _, fun j => ⟨fun _ => rfl, fun _ w => by cases w⟩⟩
      refine ImplA.name hi hiw p rfl hr W (.ref D) (.val (.ref D)) (.val _ rfl) W st _ (Le.refl _) (I.keeps k1) () _ rfl _ E fun W2 _ s2' x2 I2 _ => ?_
      have d2 := d1.ext x2 hDo
      have xx2 := x1.trans x2
      refine wpAny_execs_cons (wpAny_For (iter_list h0 p rfl hr W2 _ s2' I2 xs _ (hfit _) _ E fun W3 s3' It fp wr J x3 I3 T j3 hwr hfp hfx => ?_) (hs p.env))
      have hDfp : ∀ b ∈ fp, b ≠ D := fun b hb w => by
        subst w
        rcases hfx b hb with ⟨o, ho⟩ | ho
        · obtain ⟨od, hod⟩ := d2.alive
          rw [x3.oth b od hod d2.role] at ho; cases ho
        · obtain ⟨od, hod⟩ := d2.alive
          rw [ho] at hod; cases hod
      obtain ⟨evq1, -, -⟩ := var_some evq
      have hEnd : ∀ W' l s' m', Ext p.Own W s W' s' → Inv c p W' { st with loc := l } s' → (∀ a, a ≠ j → l[a]? = (st.loc.set i (.val (.ref D)))[a]?) → l.length = st.loc.length → Dct c W' s'.heap D m' (tab st xs fun _ => .none) →
          wpAny (model c.prog c.w) p.A (execs ifs p.env) Q E s' := by
        intro W' l s' m' x4 I4 hl hll d4
        rw [hifs]
        have lq : l[q]? = some (.int k) := by rw [hl q (Ne.symm hjq), List.getElem?_set_ne hiq]; exact evq1
        have li : l[i]? = some (.val (.ref D)) := by rw [hl i hij, List.getElem?_set_self hil]
        have vq : var q { st with loc := l } = some (.int k, { st with loc := l }) := var_get lq (fun w => by cases w)
        have vi : var i { st with loc := l } = some (.val (.ref D), { st with loc := l }) := var_get li (fun w => by cases w)
        refine wpAny_execs_cons (wpAny_If (wpAny_isTrue_Compare1 (ImplE.name hq hdz p rfl hr W' W' { st with loc := l } s' (Le.refl _) I4 (.int k) { st with loc := l } vq _ E fun W5 vk s5 x5 I5 r5 => ?_) rfl))
        obtain ⟨tk, rfl⟩ := r5.inv_int
        refine ImplE.name hi hdx p rfl hr W5 W5 { st with loc := l } s5 (Le.refl _) I5 (.val (.ref D)) { st with loc := l } vi _ E fun W6 vD s6 x6 I6 r6 => ?_
        have := r6.inv_val
        subst this
        have d6 := (d4.ext x5 hDo).ext x6 hDo
        have x46 := (x4.trans x5).trans x6
        obtain ⟨kvs, hd, hlen', hv⟩ := d6.at_
        refine wpAny_in_of (intKind_is _ _ _ _) hDsys hd.mapOf (wpAny_truthy_bool ?_)
        cases hk : tab st xs (fun _ => .none) k with
        | none =>
          rw [hk] at e
          rw [(hv k).1 hk]
          show wpAny _ _ (execs [] p.env) _ E _
          refine wpAny_execs_nil ?_
          refine ht p rfl hr W6 W6 { st with loc := (st.loc.set i .unb).set j .unb } _ (Le.refl _) ((I6.toks _).weak _ fun a w h1 h2 => ?_) b st' e Q E fun W7 v s7 x7 I7 r7 => hQ W7 v s7 ((x46.toks _).trans x7) I7 r7
          by_cases qj : j = a
          · subst qj; rw [List.getElem?_set_self (by rw [List.length_set]; exact hjl)] at h1; cases h1; exact absurd rfl h2
          · rw [List.getElem?_set_ne qj] at h1
            by_cases qi : i = a
            · subst qi; rw [List.getElem?_set_self hil] at h1; cases h1; exact absurd rfl h2
            · rw [hl a (Ne.symm qj), List.getElem?_set_ne qi]; rw [List.getElem?_set_ne qi] at h1; exact h1
        | some xv =>
          rw [hk] at e
          obtain ⟨vv, hvv, rv⟩ := (hv k).2 xv hk
          rw [hvv]
          show wpAny _ _ (execs (.Assign [.Name y p16] (.Subscript (.Name x p17) (.Name z p18) p19) p20 :: bs) p.env) _ E _
          obtain ⟨fr, st3, e4, e5⟩ := bd_some e
          refine wpAny_execs_cons (wpAny_Assign_stores (Subscript_ (ImplE.name hi hdx p rfl hr W6 W6 { st with loc := l } _ (Le.refl _) (I6.toks _) (.val (.ref D)) { st with loc := l } vi _ E fun W7 vD s7 x7 I7 r7 => ?_)) (by rw [swaps_static hsc]; exact u5) (by rw [stores_static hsc]; exact u6))
          have := r7.inv_val
          subst this
          refine ImplE.name hq hdz p rfl hr W7 W7 { st with loc := l } s7 (Le.refl _) I7 (.int k) { st with loc := l } vq _ E fun W8 vk s8 x8 I8 r8 => ?_
          obtain ⟨tk', rfl⟩ := r8.inv_int
          have d8 := Dct.ext (s' := s8) (Dct.ext (s' := s7) (s := { s6 with toks := s6.toks + 1 }) d6 x7 hDo) x8 hDo
          obtain ⟨kvs8, hd8, hlen8, hv8⟩ := d8.at_
          obtain ⟨v8, hv8', rv8⟩ := (hv8 k).2 xv hk
          refine tail_any (T := "dict") hd8.typeIs slot_dict_getitem.lookup (wpAny_getItem_of (intKind_is _ _ _ _) hd8.mapOf hv8' ?_) (sub_plain rfl _ _)
          rw [assignAll_one rfl]
          refine ImplA.name hj hjw p rfl hr W8 v8 xv rv8 W8 { st with loc := l } _ (Le.refl _) (I8.toks _) () _ rfl _ E fun W9 _ s9 x9 I9 _ => ?_
          have x69 := (((x46.toks (s6.toks + 1)).trans x7).trans x8).toks (s8.toks + 1) |>.trans x9
          refine hb p rfl hr W9 W9 { st with loc := (st.loc.set i .unb).set j xv } s9 (Le.refl _) (Inv.weak (st := st) (l := l.set j xv) I9 _ fun a w h1 h2 => ?_) fr st3 e4 _ E fun W10 fl s10 x10 I10 r10 => ?_
          · by_cases qj : j = a
            · subst qj
              rw [List.getElem?_set_self (by rw [List.length_set]; exact hjl)] at h1
              rw [List.getElem?_set_self (by rw [hll]; exact hjl)]; exact h1
            · rw [List.getElem?_set_ne qj] at h1 ⊢
              by_cases qi : i = a
              · subst qi; rw [List.getElem?_set_self hil] at h1; cases h1; exact absurd rfl h2
              · rw [hl a (Ne.symm qj), List.getElem?_set_ne qi]; rw [List.getElem?_set_ne qi] at h1; exact h1
          · cases r10 with
            | next => exact ht p rfl hr W10 W10 st3 s10 (Le.refl _) I10 b st' e5 Q E fun W11 v s11 x11 I11 r11 => hQ W11 v s11 ((x69.trans x10).trans x11) I11 r11
            | ret rv' => cases e5; exact hQ W10 _ s10 (x69.trans x10) I10 (.ret rv')
      have d3 := d2.ext x3 hDo
      have xx3 := xx2.trans x3
      have hwr0 : ∀ b ∈ wr, s.heap.get? b = .none := fun b hb => by
        cases w : s.heap.get? b with
        | none => rfl
        | some o => obtain ⟨o1, z1⟩ := xx2.alive _ o w; rw [hwr b hb] at z1; cases z1
      have hwrD : ∀ b ∈ wr, b ≠ D := fun b hb w => by
        subst w; obtain ⟨o, ho⟩ := d2.alive; rw [hwr b hb] at ho; cases ho
      have hwb0 : ∀ b ∈ wr, c.h0.get? b = .none := fun b hb => I.hr.base_none (hwr0 b hb)
      have hwL : ∀ b ∈ wr, b ≠ p.env.locals := fun b hb w => by
        obtain ⟨ml, ⟨o1, es, ep, ho, _⟩, _⟩ := I.fr.ns
        rw [← w, hwr0 b hb] at ho; cases ho
      have hwC : ∀ b ∈ wr, ∀ y, p.env.cells.lookup y ≠ some b := fun b hb y w => by
        obtain ⟨v', o1, ho, _⟩ := I.fr.cells y b w
        rw [hwr0 b hb] at ho; cases ho
      obtain ⟨P, hP⟩ : ∃ P : Nat → Shared → Prop, ∀ m s', P m s' ↔ ∃ W' l xs' m' t, m = xs'.length ∧ Ext p.Own W s W' s' ∧ Inv c p W' { st with loc := l } s' ∧ (∀ a, a ≠ j → l[a]? = (st.loc.set i (.val (.ref D)))[a]?) ∧ l.length = st.loc.length ∧ J xs' W' { st with loc := l } s'.heap ∧ Dct c W' s'.heap D m' t ∧ m' + xs'.length ≤ 100000 ∧ tab st xs' t = tab st xs (fun _ => .none) ∧ xs'.all (fun x => (keyOf st x).isSome) = true := ⟨_, fun _ _ => Iff.rfl⟩
      refine codeAny_forLoop_any P ?_ xs.length ((hP _ _).mpr ⟨W3, _, xs, 0, fun _ => .none, rfl, xx3, I3, fun _ _ => rfl, List.length_set, j3, d3, by omega, rfl, hkeys⟩)
      intro m sa hPm
      obtain ⟨Wa, l, xs', m', t, hm, xa, Ia, hl, hll, ja, da, hsz, htab, hks⟩ := (hP _ _).mp hPm
      cases xs' with
      | nil =>
        refine wpAny_noRaise (wpAny_mono (T.stop [] Wa { st with loc := l } sa ja Ia.hr rfl (fun s2 => wpAny (model c.prog c.w) p.A (execs ifs p.env) Q E s2) (fun _ _ => False) fun h' tk hk => ?_) (fun q s2 hq => ?_) fun _ _ q => q)
        · obtain ⟨I2, x2⟩ := poke_wr (tk := tk) hwr0 hwb0 hwL hwC (fun b hb => (T.wrOk [] Wa { st with loc := l } sa.heap ja b hb).1) xa Ia hk
          refine hEnd Wa l _ m' x2 I2 hl hll ?_
          rw [← htab]
          exact da.at' (Le.refl _) da.role fun o e => hk D o (fun w => hwrD D w rfl) e
        · cases q with
          | none => exact wpAny_execs_nil hq
          | some => exact hq.elim
      | cons xv r =>
        obtain ⟨hk1, hks'⟩ := Bool.and_eq_true_iff.mp (show ((keyOf st xv).isSome && r.all (fun x => (keyOf st x).isSome)) = true from hks)
        obtain ⟨kx, hkx⟩ := Option.isSome_iff_exists.mp hk1
        refine wpAny_noRaise (wpAny_mono (T.next (xv :: r) r xv Wa { st with loc := l } sa (.Name y p4) rfl ja Ia.hr rfl (fun v s2 => wpAny (model c.prog c.w) p.A (assign (.Name y p4) p.env v) (fun _ s3 => wpAny (model c.prog c.w) p.A (execs bdy p.env) (fun f s4 => f = .next ∧ P r.length s4) (fun _ _ => False) s3) (fun _ _ => False) s2) (fun _ _ => False) fun Wb v h' tk hN rv jb hk => ?_) (fun q s2 hq => ?_) fun _ _ q => q)
        · obtain ⟨Ia', xa'⟩ := poke_wr (tk := tk) hwr0 hwb0 hwL hwC (fun b hb => (T.wrOk (xv :: r) Wa { st with loc := l } sa.heap ja b hb).1) xa Ia hk
          obtain ⟨Ib, xb, leb⟩ := newW_ok hN Ia Ia' xa xa'
          have db : Dct c Wb h' D m' t := da.at' leb (by
            rcases hN with rfl | ⟨TT, o, hT, hT', rfl⟩
            · exact da.role
            · rw [Wd.set_other]
              · exact da.role
              · intro w; subst w; obtain ⟨o', ho'⟩ := da.alive; rw [hT] at ho'; cases ho') fun o e => hk D o (fun w => hwrD D w rfl) e
          refine ImplA.name hj hjw p rfl hr Wb v xv rv Wb { st with loc := l } { sa with heap := h', toks := tk } (Le.refl _) Ib () _ rfl _ _ fun Wc _ sc xc Ic _ => ?_
          have jc := T.frame p.Own r Wb Wc { st with loc := l } { st with loc := l.set j xv } { sa with heap := h', toks := tk } sc hfp jb Ib.hr xc Ic.hr
          have dc := Dct.ext (s := { sa with heap := h', toks := tk }) db xc hDo
          have hlj : (l.set j xv)[j]? = some xv := List.getElem?_set_self (by rw [hll]; exact hjl)
          have hl' : ∀ a, a ≠ j → (l.set j xv)[a]? = (st.loc.set i (.val (.ref D)))[a]? := fun a ha => by rw [List.getElem?_set_ne (Ne.symm ha)]; exact hl a ha
          have hne : xv ≠ .unb := fun w => by subst w; simp [keyOf, getItemM, itemsM] at hkx
          have vj : var j { st with loc := l.set j xv } = some (xv, { st with loc := l.set j xv }) := var_get hlj hne
          have vi : var i { st with loc := l.set j xv } = some (.val (.ref D), { st with loc := l.set j xv }) := var_get (by rw [hl' i hij, List.getElem?_set_self hil]) (fun w => by cases w)
          rw [hbdy]
          refine wpAny_execs_cons (wpAny_Assign_stores (ImplE.name hj hdy p rfl hr Wc Wc { st with loc := l.set j xv } sc (Le.refl _) Ic xv { st with loc := l.set j xv } vj _ _ fun Wd vx sd xd Id rd => ?_) (by rw [swaps_static hsc]; exact u3) (by rw [stores_static hsc]; exact u4))
          rw [assignAll_one rfl, arm_assign_Subscript]
          refine wpAny_bind (wpAny_holding (ImplE.name hi hdx p rfl hr Wd Wd { st with loc := l.set j xv } sd (Le.refl _) Id (.val (.ref D)) { st with loc := l.set j xv } vi _ _ fun We vD se xe Ie re => ?_))
          have := re.inv_val
          subst this
          have hkc : keyOf { st with loc := l.set j xv } xv = some kx := by rw [key_loc]; exact hkx
          refine wpAny_bind (wpAny_holding ((ImplE.item (ImplE.name hj hdy) ImplE.cint rfl) p rfl hr We We { st with loc := l.set j xv } se (Le.refl _) Ie (.int kx) { st with loc := l.set j xv } (by show bd (var j) (fun x => bd (pu (.int 1)) fun y => getItemM x y) _ = _; unfold bd; rw [vj]; exact key_get hkc) _ _ fun Wf vk sf xf If rf => ?_))
          obtain ⟨tk', rfl⟩ := rf.inv_int
          have df := ((dc.ext xd hDo).ext xe hDo).ext xf hDo
          have jf := T.frame p.Own r Wc Wf { st with loc := l.set j xv } { st with loc := l.set j xv } sc sf hfp jc Ic.hr ((xd.trans xe).trans xf) If.hr
          have xF := (((xb.trans xc).trans xd).trans xe).trans xf
          obtain ⟨kvs, hd, hlen', hv⟩ := df.at_
          refine wpAny_bind (wpAny_standAt (wpAny_bind (wpAny_holding (wpAny_setItem_pairs (intKind_is _ _ _ _) hd (fun h2 hm2 hs2 => ?_) (by rw [sizeLine_eq]; rw [List.length_cons] at hsz; omega)))))
          refine wpAny_release (wpAny_execs_nil ⟨rfl, ?_⟩)
          have kb : Heap.ExtBut D sf.heap h2 := hs2.extBut
          have Ig : Inv c p Wf { st with loc := l.set j xv } { sf with heap := h2, toks := sf.toks + 1 } := If.poke (s' := { sf with heap := h2, toks := sf.toks + 1 }) kb df.role hD0 hDL hDC
          have xg : Ext p.Own W s Wf { sf with heap := h2, toks := sf.toks + 1 } := xF.poke (s'' := { sf with heap := h2, toks := sf.toks + 1 }) kb hnD rfl rfl
          have xo : Ext (fun a => a = D) Wf sf Wf { sf with heap := h2, toks := sf.toks + 1 } := ⟨Le.refl _, fun a o e => by
            by_cases w : a = D
            · subst w; obtain ⟨o', _, _, ho', _⟩ := hm2; exact ⟨o', ho'⟩
            · exact ⟨o, kb a o w e⟩, fun _ _ _ e => e, fun a o _ w e => kb a o w e, rfl, rfl⟩
          have jg := T.frame (fun a => a = D) r Wf Wf { st with loc := l.set j xv } { st with loc := l.set j xv } sf { sf with heap := h2, toks := sf.toks + 1 } (fun b hb => hDfp b hb) jf If.hr xo Ig.hr
          have rdx : VR Wf vx xv := (rd.mono xe.le).mono xf.le
          refine (hP _ _).mpr ⟨Wf, l.set j xv, r, m' + 1, fun a => if keyOf st xv = some a then some xv else t a, rfl, xg, Ig, hl', by rw [List.length_set]; exact hll, jg, ⟨df.role, _, hm2, Nat.le_trans (stored_length_le _ _ _) (by omega), fun a => ?_⟩, by rw [List.length_cons] at hsz; omega, htab, hks'⟩
          rw [valueAt_stored]
          by_cases w : a = kx
          · subst w
            simp only [hkx, if_true]
            exact ⟨fun w => (by cases w), fun y w => ⟨vx, rfl, by cases w; exact rdx⟩⟩
          · have w' : ¬ kx = a := fun u => w u.symm
            simp only [hkx, Option.some.injEq, if_neg w', if_neg w]
            exact hv a
        · cases q with
          | none => exact hq.elim
          | some v => exact wpAny_mono hq (fun _ s3 z => wpAny_noRaise (wpAny_mono z (fun _ s4 y => wpAny_noRaise (wpAny_mono y (fun f s5 g => by
              obtain ⟨rfl, g⟩ := g
              exact ⟨r.length, by rw [hm]; exact Nat.lt_succ_self _, g⟩) fun _ _ q => q)) fun _ _ q => q)) fun _ _ q => q.elim
    · cases e
  · cases e
theorem rev_at {r i : Nat} (hir : i ≠ r) : ∀ st xs st', bd (sliceM (var r) (pu .none) (pu .none) (partM (negM (pu (.int 1))))) lstIt st = some (xs, st') →
    st' = st ∧ ∀ v, bd (sliceM (var r) (pu .none) (pu .none) (partM (negM (pu (.int 1))))) lstIt { st with loc := st.loc.set i v } = some (xs, { st with loc := st.loc.set i v }) := by
  intro st xs st' e
  obtain ⟨x, st1, e1, e2⟩ := bd_some e
  obtain ⟨y, sty, ey, e3⟩ := bd_some e1
  obtain ⟨h1, h2, rfl⟩ := var_some ey
  have hv : ∀ v, var r { sty with loc := sty.loc.set i v } = some (y, { sty with loc := sty.loc.set i v }) := fun v => var_get (by show (sty.loc.set i v)[r]? = _; rw [List.getElem?_set_ne hir]; exact h1) h2
  simp only [bd, pu, partM, negM] at e3
  cases hy : itemsM y sty with
  | none => rw [hy] at e3; cases e3
  | some q =>
    obtain ⟨ys, q⟩ := q
    rw [hy] at e3
    simp only at e3
    split at e3
    · rename_i hc
      cases e3
      cases e2
      refine ⟨rfl, fun v => ?_⟩
      simp only [bd, sliceM, hv, pu, partM, negM, items_loc, hy]
      rw [if_pos hc]
      rfl
    · cases e3
end
end Mine

set_option maxRecDepth 100000 in
set_option maxHeartbeats 8000000 in
open_top hd11 for PySem.Challenge.rw_dn0304_11
namespace Mine
set_option maxHeartbeats 4000000
section
variable {w : World} {h0 : Heap} {mg mb : Str → Option Value} {n : Nat} {sx : Sx}
noncomputable abbrev cx (w : World) (h0 : Heap) (mg mb : Str → Option Value) : Cx := ⟨PySem.Challenge.rw_dn0304_11.row.prog, w, hd11.heap_39 w.params, 102, h0, mg, mb⟩

theorem cls : Cls (cx w h0 mg mb) where
  makes := by show makesIn (hd11.heap_39 w.params) 102 = true; k_is
  ga := by show findIn (hd11.heap_39 w.params) (.ref 102) (Str.ofString "__getattribute__") = _; k_is
  gat := by show findIn (hd11.heap_39 w.params) (.ref 102) (Str.ofString "__getattr__") = _; k_is
  sa := by show findIn (hd11.heap_39 w.params) (.ref 102) (Str.ofString "__setattr__") = _; k_is
  plain := by show plainOver (hd11.heap_39 w.params) 102 = true; k_is
  hasDict := by show hasDictIn (hd11.heap_39 w.params) 102 = true; k_is
  fields := fun f => by
    cases f
    · show findIn (hd11.heap_39 w.params) (.ref 102) (Str.ofString "_InputSource__system_id") = _; k_is
    · show findIn (hd11.heap_39 w.params) (.ref 102) (Str.ofString "_InputSource__public_id") = _; k_is
    · show findIn (hd11.heap_39 w.params) (.ref 102) (Str.ofString "_InputSource__encoding") = _; k_is
    · show findIn (hd11.heap_39 w.params) (.ref 102) (Str.ofString "_InputSource__bytefile") = _; k_is
    · show findIn (hd11.heap_39 w.params) (.ref 102) (Str.ofString "_InputSource__charfile") = _; k_is
  keep := by show keepIn (hd11.heap_39 w.params) (.ref 102) = true; k_is

theorem m_getSystemId : MethIs (cx w h0 mg mb) "getSystemId" 57 where
  find := by show findIn (hd11.heap_39 w.params) (.ref 102) (Str.ofString "getSystemId") = _; k_is
  typ := by show typeIn (hd11.heap_39 w.params) (.ref 57) = _; k_is
  fn := ⟨_, _, _, _, by show List.lookup 57 (hd11.heap_39 w.params) = _; k_is⟩
  other := fun f => by cases f <;> decide +kernel
theorem f_getSystemId (G : Gd (cx w h0 mg mb)) : ImplF (cx w h0 mg mb) (n + 1) 57 (getF .sys) := getter_ok G cls (x := "self") (f := .sys) ⟨⟨_, _, _, by show List.lookup 57 (hd11.heap_39 w.params) = _; k_is⟩, rfl, rfl, rfl, rfl, by show codeIn (hd11.heap_39 w.params) _ _ = true; k_is, rfl, rfl, rfl, fun vals h => match vals, h with | [_], _ => rfl, by decide +kernel, by decide +kernel⟩ (by decide +kernel)
theorem m_setSystemId : MethIs (cx w h0 mg mb) "setSystemId" 50 where
  find := by show findIn (hd11.heap_39 w.params) (.ref 102) (Str.ofString "setSystemId") = _; k_is
  typ := by show typeIn (hd11.heap_39 w.params) (.ref 50) = _; k_is
  fn := ⟨_, _, _, _, by show List.lookup 50 (hd11.heap_39 w.params) = _; k_is⟩
  other := fun f => by cases f <;> decide +kernel
theorem f_setSystemId (G : Gd (cx w h0 mg mb)) : ImplF (cx w h0 mg mb) (n + 1) 50 (setF .sys) := setter_ok G cls (x := "self") (y := "system_id") (f := .sys) ⟨⟨_, _, _, by show List.lookup 50 (hd11.heap_39 w.params) = _; k_is⟩, rfl, rfl, rfl, rfl, by show codeIn (hd11.heap_39 w.params) _ _ = true; k_is, rfl, rfl, rfl, fun vals h => match vals, h with | [_, _], _ => rfl, by decide +kernel, by decide +kernel⟩ (by decide +kernel) (by decide +kernel)
theorem m_getPublicId : MethIs (cx w h0 mg mb) "getPublicId" 43 where
  find := by show findIn (hd11.heap_39 w.params) (.ref 102) (Str.ofString "getPublicId") = _; k_is
  typ := by show typeIn (hd11.heap_39 w.params) (.ref 43) = _; k_is
  fn := ⟨_, _, _, _, by show List.lookup 43 (hd11.heap_39 w.params) = _; k_is⟩
  other := fun f => by cases f <;> decide +kernel
theorem f_getPublicId (G : Gd (cx w h0 mg mb)) : ImplF (cx w h0 mg mb) (n + 1) 43 (getF .pub) := getter_ok G cls (x := "self") (f := .pub) ⟨⟨_, _, _, by show List.lookup 43 (hd11.heap_39 w.params) = _; k_is⟩, rfl, rfl, rfl, rfl, by show codeIn (hd11.heap_39 w.params) _ _ = true; k_is, rfl, rfl, rfl, fun vals h => match vals, h with | [_], _ => rfl, by decide +kernel, by decide +kernel⟩ (by decide +kernel)
theorem m_setPublicId : MethIs (cx w h0 mg mb) "setPublicId" 36 where
  find := by show findIn (hd11.heap_39 w.params) (.ref 102) (Str.ofString "setPublicId") = _; k_is
  typ := by show typeIn (hd11.heap_39 w.params) (.ref 36) = _; k_is
  fn := ⟨_, _, _, _, by show List.lookup 36 (hd11.heap_39 w.params) = _; k_is⟩
  other := fun f => by cases f <;> decide +kernel
theorem f_setPublicId (G : Gd (cx w h0 mg mb)) : ImplF (cx w h0 mg mb) (n + 1) 36 (setF .pub) := setter_ok G cls (x := "self") (y := "public_id") (f := .pub) ⟨⟨_, _, _, by show List.lookup 36 (hd11.heap_39 w.params) = _; k_is⟩, rfl, rfl, rfl, rfl, by show codeIn (hd11.heap_39 w.params) _ _ = true; k_is, rfl, rfl, rfl, fun vals h => match vals, h with | [_, _], _ => rfl, by decide +kernel, by decide +kernel⟩ (by decide +kernel) (by decide +kernel)
theorem m_getEncoding : MethIs (cx w h0 mg mb) "getEncoding" 71 where
  find := by show findIn (hd11.heap_39 w.params) (.ref 102) (Str.ofString "getEncoding") = _; k_is
  typ := by show typeIn (hd11.heap_39 w.params) (.ref 71) = _; k_is
  fn := ⟨_, _, _, _, by show List.lookup 71 (hd11.heap_39 w.params) = _; k_is⟩
  other := fun f => by cases f <;> decide +kernel
theorem f_getEncoding (G : Gd (cx w h0 mg mb)) : ImplF (cx w h0 mg mb) (n + 1) 71 (getF .enc) := getter_ok G cls (x := "self") (f := .enc) ⟨⟨_, _, _, by show List.lookup 71 (hd11.heap_39 w.params) = _; k_is⟩, rfl, rfl, rfl, rfl, by show codeIn (hd11.heap_39 w.params) _ _ = true; k_is, rfl, rfl, rfl, fun vals h => match vals, h with | [_], _ => rfl, by decide +kernel, by decide +kernel⟩ (by decide +kernel)
theorem m_setEncoding : MethIs (cx w h0 mg mb) "setEncoding" 64 where
  find := by show findIn (hd11.heap_39 w.params) (.ref 102) (Str.ofString "setEncoding") = _; k_is
  typ := by show typeIn (hd11.heap_39 w.params) (.ref 64) = _; k_is
  fn := ⟨_, _, _, _, by show List.lookup 64 (hd11.heap_39 w.params) = _; k_is⟩
  other := fun f => by cases f <;> decide +kernel
theorem f_setEncoding (G : Gd (cx w h0 mg mb)) : ImplF (cx w h0 mg mb) (n + 1) 64 (setF .enc) := setter_ok G cls (x := "self") (y := "encoding") (f := .enc) ⟨⟨_, _, _, by show List.lookup 64 (hd11.heap_39 w.params) = _; k_is⟩, rfl, rfl, rfl, rfl, by show codeIn (hd11.heap_39 w.params) _ _ = true; k_is, rfl, rfl, rfl, fun vals h => match vals, h with | [_, _], _ => rfl, by decide +kernel, by decide +kernel⟩ (by decide +kernel) (by decide +kernel)
theorem m_getByteStream : MethIs (cx w h0 mg mb) "getByteStream" 85 where
  find := by show findIn (hd11.heap_39 w.params) (.ref 102) (Str.ofString "getByteStream") = _; k_is
  typ := by show typeIn (hd11.heap_39 w.params) (.ref 85) = _; k_is
  fn := ⟨_, _, _, _, by show List.lookup 85 (hd11.heap_39 w.params) = _; k_is⟩
  other := fun f => by cases f <;> decide +kernel
theorem f_getByteStream (G : Gd (cx w h0 mg mb)) : ImplF (cx w h0 mg mb) (n + 1) 85 (getF .byt) := getter_ok G cls (x := "self") (f := .byt) ⟨⟨_, _, _, by show List.lookup 85 (hd11.heap_39 w.params) = _; k_is⟩, rfl, rfl, rfl, rfl, by show codeIn (hd11.heap_39 w.params) _ _ = true; k_is, rfl, rfl, rfl, fun vals h => match vals, h with | [_], _ => rfl, by decide +kernel, by decide +kernel⟩ (by decide +kernel)
theorem m_setByteStream : MethIs (cx w h0 mg mb) "setByteStream" 78 where
  find := by show findIn (hd11.heap_39 w.params) (.ref 102) (Str.ofString "setByteStream") = _; k_is
  typ := by show typeIn (hd11.heap_39 w.params) (.ref 78) = _; k_is
  fn := ⟨_, _, _, _, by show List.lookup 78 (hd11.heap_39 w.params) = _; k_is⟩
  other := fun f => by cases f <;> decide +kernel
theorem f_setByteStream (G : Gd (cx w h0 mg mb)) : ImplF (cx w h0 mg mb) (n + 1) 78 (setF .byt) := setter_ok G cls (x := "self") (y := "bytefile") (f := .byt) ⟨⟨_, _, _, by show List.lookup 78 (hd11.heap_39 w.params) = _; k_is⟩, rfl, rfl, rfl, rfl, by show codeIn (hd11.heap_39 w.params) _ _ = true; k_is, rfl, rfl, rfl, fun vals h => match vals, h with | [_, _], _ => rfl, by decide +kernel, by decide +kernel⟩ (by decide +kernel) (by decide +kernel)
theorem m_getCharacterStream : MethIs (cx w h0 mg mb) "getCharacterStream" 99 where
  find := by show findIn (hd11.heap_39 w.params) (.ref 102) (Str.ofString "getCharacterStream") = _; k_is
  typ := by show typeIn (hd11.heap_39 w.params) (.ref 99) = _; k_is
  fn := ⟨_, _, _, _, by show List.lookup 99 (hd11.heap_39 w.params) = _; k_is⟩
  other := fun f => by cases f <;> decide +kernel
theorem f_getCharacterStream (G : Gd (cx w h0 mg mb)) : ImplF (cx w h0 mg mb) (n + 1) 99 (getF .chr) := getter_ok G cls (x := "self") (f := .chr) ⟨⟨_, _, _, by show List.lookup 99 (hd11.heap_39 w.params) = _; k_is⟩, rfl, rfl, rfl, rfl, by show codeIn (hd11.heap_39 w.params) _ _ = true; k_is, rfl, rfl, rfl, fun vals h => match vals, h with | [_], _ => rfl, by decide +kernel, by decide +kernel⟩ (by decide +kernel)
theorem m_setCharacterStream : MethIs (cx w h0 mg mb) "setCharacterStream" 92 where
  find := by show findIn (hd11.heap_39 w.params) (.ref 102) (Str.ofString "setCharacterStream") = _; k_is
  typ := by show typeIn (hd11.heap_39 w.params) (.ref 92) = _; k_is
  fn := ⟨_, _, _, _, by show List.lookup 92 (hd11.heap_39 w.params) = _; k_is⟩
  other := fun f => by cases f <;> decide +kernel
theorem f_setCharacterStream (G : Gd (cx w h0 mg mb)) : ImplF (cx w h0 mg mb) (n + 1) 92 (setF .chr) := setter_ok G cls (x := "self") (y := "charfile") (f := .chr) ⟨⟨_, _, _, by show List.lookup 92 (hd11.heap_39 w.params) = _; k_is⟩, rfl, rfl, rfl, rfl, by show codeIn (hd11.heap_39 w.params) _ _ = true; k_is, rfl, rfl, rfl, fun vals h => match vals, h with | [_, _], _ => rfl, by decide +kernel, by decide +kernel⟩ (by decide +kernel) (by decide +kernel)
theorem init : ∃ fd body, InitIs (cx w h0 mg mb) 29 fd body "self" "system_id" :=
  ⟨_, _, by show findIn (hd11.heap_39 w.params) (.ref 102) (Str.ofString "__init__") = _; k_is, by show typeIn (hd11.heap_39 w.params) (.ref 29) = _; k_is, ⟨_, _, _, by show List.lookup 29 (hd11.heap_39 w.params) = _; k_is⟩, rfl, by show codeIn (hd11.heap_39 w.params) _ _ = true; k_is, rfl, rfl, rfl, by decide, fun _ _ => rfl, fun _ _ _ => rfl, rfl, rfl, by decide, by decide +kernel, by decide +kernel, ⟨_, _, _, _, _, _, _, _, _, _, _, _, _, _, _, _, _, _, _, _, _, _, _, _, rfl⟩⟩
theorem g_InputSource (G : Gd (cx w h0 mg mb)) : (cx w h0 mg mb).Glob "InputSource" (.ref 102) := .inl (mg_of (K := hd11.heap_39 w.params) G.inK G.g (by show nsIn (hd11.heap_39 w.params) mainGlobals (Str.ofString "InputSource") = _; k_is))
theorem r_law_answered : ∃ oc od fd osl, (cx w h0 mg mb).K.lookup 127 = some ⟨oc, od, .func fd, osl⟩ := ⟨_, _, _, _, by show List.lookup 127 (hd11.heap_39 w.params) = _; k_is⟩
theorem g_law_answered (G : Gd (cx w h0 mg mb)) : (cx w h0 mg mb).Glob "_law_answered" (.ref 127) := .inl (mg_of (K := hd11.heap_39 w.params) G.inK G.g (by show nsIn (hd11.heap_39 w.params) mainGlobals (Str.ofString "_law_answered") = _; k_is))
theorem r_law_entry : ∃ oc od fd osl, (cx w h0 mg mb).K.lookup 120 = some ⟨oc, od, .func fd, osl⟩ := ⟨_, _, _, _, by show List.lookup 120 (hd11.heap_39 w.params) = _; k_is⟩
theorem g_law_entry (G : Gd (cx w h0 mg mb)) : (cx w h0 mg mb).Glob "_law_entry" (.ref 120) := .inl (mg_of (K := hd11.heap_39 w.params) G.inK G.g (by show nsIn (hd11.heap_39 w.params) mainGlobals (Str.ofString "_law_entry") = _; k_is))
theorem r_law_told : ∃ oc od fd osl, (cx w h0 mg mb).K.lookup 113 = some ⟨oc, od, .func fd, osl⟩ := ⟨_, _, _, _, by show List.lookup 113 (hd11.heap_39 w.params) = _; k_is⟩
theorem g_law_told (G : Gd (cx w h0 mg mb)) : (cx w h0 mg mb).Glob "_law_told" (.ref 113) := .inl (mg_of (K := hd11.heap_39 w.params) G.inK G.g (by show nsIn (hd11.heap_39 w.params) mainGlobals (Str.ofString "_law_told") = _; k_is))
theorem g_len (G : Gd (cx w h0 mg mb)) (hB : ∀ x : Str, x ≠ "__name__" → mb x = bootBuiltins x) : (cx w h0 mg mb).Glob "len" (.builtin "len") := .inr ⟨mg_none_of (K := hd11.heap_39 w.params) G.inK G.g (by show nsIn (hd11.heap_39 w.params) mainGlobals (Str.ofString "len") = _; k_is), (hB "len" (by decide +kernel)).trans (by rfl)⟩
theorem g_zip (G : Gd (cx w h0 mg mb)) (hB : ∀ x : Str, x ≠ "__name__" → mb x = bootBuiltins x) : (cx w h0 mg mb).Glob "zip" (.type "zip") := .inr ⟨mg_none_of (K := hd11.heap_39 w.params) G.inK G.g (by show nsIn (hd11.heap_39 w.params) mainGlobals (Str.ofString "zip") = _; k_is), (hB "zip" (by decide +kernel)).trans (by rfl)⟩
theorem e_new (G : Gd (cx w h0 mg mb)) {p0 pos : Pos} {es : List Expr} {fs : Cm (List AV)} (hx : sx.sc.names.lookup ("InputSource" : Str) = some .globalImplicit) (h1 : ImplEs (cx w h0 mg mb) (n + 1) sx es fs) (hp : es.all plainX = true := by rfl) : ImplE (cx w h0 mg mb) (n + 1) sx (.Call (.Name "InputSource" p0) es [] pos) (bd fs newM) :=
  let ⟨_, _, D⟩ := init; ImplE.new G cls D hx (g_InputSource G) h1 (hp := hp)
noncomputable def B_law_told : Cm AF := thenM (retM (bd (consM (methM (var 0) (pu []) (getF .sys)) (consM (methM (var 0) (pu []) (getF .pub)) (consM (methM (var 0) (pu []) (getF .enc)) (consM (methM (var 0) (pu []) (getF .byt)) (consM (methM (var 0) (pu []) (getF .chr)) (pu [])))))) lstM))
  (pu .next)
noncomputable def F_law_told : List AV → Cm AV := runFn 1 0 B_law_told
theorem k_law_told (G : Gd (cx w h0 mg mb)) (hB : ∀ x : Str, x ≠ "__name__" → mb x = bootBuiltins x) : ImplF (cx w h0 mg mb) (n + 2) 113 F_law_told :=
  fn_ok (names := ["source"]) (others := []) (g := B_law_told) G ⟨⟨_, _, _, by show List.lookup 113 (hd11.heap_39 w.params) = _; k_is⟩, rfl, rfl, rfl, rfl, by show codeIn (hd11.heap_39 w.params) _ _ = true; k_is, rfl, rfl, rfl, fun vals h => match vals, h with | [_], _ => rfl, by decide +kernel, by decide +kernel⟩
  (ImplS.cons (ImplS1.ret (ImplE.list (ImplEs.cons (ImplE.meth G cls m_getSystemId (ImplE.name (i := 0) rfl (by decide +kernel)) (ImplEs.nil) (f_getSystemId G)) (ImplEs.cons (ImplE.meth G cls m_getPublicId (ImplE.name (i := 0) rfl (by decide +kernel)) (ImplEs.nil) (f_getPublicId G)) (ImplEs.cons (ImplE.meth G cls m_getEncoding (ImplE.name (i := 0) rfl (by decide +kernel)) (ImplEs.nil) (f_getEncoding G)) (ImplEs.cons (ImplE.meth G cls m_getByteStream (ImplE.name (i := 0) rfl (by decide +kernel)) (ImplEs.nil) (f_getByteStream G)) (ImplEs.cons (ImplE.meth G cls m_getCharacterStream (ImplE.name (i := 0) rfl (by decide +kernel)) (ImplEs.nil) (f_getCharacterStream G)) (ImplEs.nil))))))))
  (ImplS.nil))
noncomputable def B_law_entry : Cm AF := thenM (asgM (iteM (cmp2 (bin2 (var 0) (pu (.int 0)) getItemM) (pu .none) isM) (bd (pu []) newM) (bd (consM (bin2 (var 0) (pu (.int 0)) getItemM) (pu [])) newM)) (setV 2))
  (thenM (asgM (bd (consM (methM (var 2) (consM (pu (.str "x")) (pu [])) (setF .enc)) (consM (methM (var 2) (consM (pu (.str "x")) (pu [])) (setF .byt)) (consM (methM (var 2) (consM (pu (.str "x")) (pu [])) (setF .chr)) (pu [])))) newLob) (setV 3))
  (thenM (dropM (lmethM (var 3) (consM (bd (consM (methM (var 2) (consM (bin2 (var 0) (pu (.int 2)) getItemM) (pu [])) (setF .enc)) (consM (methM (var 2) (consM (bin2 (var 0) (pu (.int 3)) getItemM) (pu [])) (setF .byt)) (consM (methM (var 2) (consM (var 1) (pu [])) (setF .pub)) (pu [])))) lstM) (pu [])) extendM))
  (thenM (retM (bd (consM (var 2) (consM (bin2 (var 3) (bd (consM (methM (var 2) (consM (bin2 (var 0) (pu (.int 4)) getItemM) (pu [])) (setF .chr)) (pu [])) lstM) addM) (pu []))) tupM))
  (pu .next))))
noncomputable def F_law_entry : List AV → Cm AV := runFn 2 2 B_law_entry
theorem k_law_entry (G : Gd (cx w h0 mg mb)) (hB : ∀ x : Str, x ≠ "__name__" → mb x = bootBuiltins x) : ImplF (cx w h0 mg mb) (n + 2) 120 F_law_entry :=
  fn_ok (names := ["due", "public"]) (others := ["new", "answers"]) (g := B_law_entry) G ⟨⟨_, _, _, by show List.lookup 120 (hd11.heap_39 w.params) = _; k_is⟩, rfl, rfl, rfl, rfl, by show codeIn (hd11.heap_39 w.params) _ _ = true; k_is, rfl, rfl, rfl, fun vals h => match vals, h with | [_, _], _ => rfl, by decide +kernel, by decide +kernel⟩
  (ImplS.cons (ImplS1.assign (ImplE.ifexp (ImplT.cmp (ImplE.item (ImplE.name (i := 0) rfl (by decide +kernel)) (ImplE.cint)) (ImplE.cnone) is_ok) (e_new G rfl (ImplEs.nil)) (e_new G rfl (ImplEs.cons (ImplE.item (ImplE.name (i := 0) rfl (by decide +kernel)) (ImplE.cint)) (ImplEs.nil)))) (ImplA.name (i := 2) rfl rfl))
  (ImplS.cons (ImplS1.assign (ImplE.listMut (ImplEs.cons (ImplE.meth G cls m_setEncoding (ImplE.name (i := 2) rfl (by decide +kernel)) (ImplEs.cons (ImplE.cstr) (ImplEs.nil)) (f_setEncoding G)) (ImplEs.cons (ImplE.meth G cls m_setByteStream (ImplE.name (i := 2) rfl (by decide +kernel)) (ImplEs.cons (ImplE.cstr) (ImplEs.nil)) (f_setByteStream G)) (ImplEs.cons (ImplE.meth G cls m_setCharacterStream (ImplE.name (i := 2) rfl (by decide +kernel)) (ImplEs.cons (ImplE.cstr) (ImplEs.nil)) (f_setCharacterStream G)) (ImplEs.nil))))) (ImplA.name (i := 3) rfl rfl))
  (ImplS.cons (ImplS1.expr (ImplE.lmeth PySem.F.slot_list_extend rfl (ImplE.name (i := 3) rfl (by decide +kernel)) (ImplEs.cons (ImplE.list (ImplEs.cons (ImplE.meth G cls m_setEncoding (ImplE.name (i := 2) rfl (by decide +kernel)) (ImplEs.cons (ImplE.item (ImplE.name (i := 0) rfl (by decide +kernel)) (ImplE.cint)) (ImplEs.nil)) (f_setEncoding G)) (ImplEs.cons (ImplE.meth G cls m_setByteStream (ImplE.name (i := 2) rfl (by decide +kernel)) (ImplEs.cons (ImplE.item (ImplE.name (i := 0) rfl (by decide +kernel)) (ImplE.cint)) (ImplEs.nil)) (f_setByteStream G)) (ImplEs.cons (ImplE.meth G cls m_setPublicId (ImplE.name (i := 2) rfl (by decide +kernel)) (ImplEs.cons (ImplE.name (i := 1) rfl (by decide +kernel)) (ImplEs.nil)) (f_setPublicId G)) (ImplEs.nil))))) (ImplEs.nil)) extend_ok))
  (ImplS.cons (ImplS1.ret (ImplE.tuple (ImplEs.cons (ImplE.name (i := 2) rfl (by decide +kernel)) (ImplEs.cons (ImplE.bin (ImplE.name (i := 3) rfl (by decide +kernel)) (ImplE.list (ImplEs.cons (ImplE.meth G cls m_setCharacterStream (ImplE.name (i := 2) rfl (by decide +kernel)) (ImplEs.cons (ImplE.item (ImplE.name (i := 0) rfl (by decide +kernel)) (ImplE.cint)) (ImplEs.nil)) (f_setCharacterStream G)) (ImplEs.nil))) add_ok) (ImplEs.nil)))))
  (ImplS.nil)))))
noncomputable def B_law_answered_1 : Cm AF := thenM (iteM (cmp2 (var 5) (pu (.int 0)) eqM) (thenM (dropM (lmethM (var 3) (consM (methM (var 1) (consM (methM (var 4) (pu []) (getF .chr)) (pu [])) (setF .chr)) (pu [])) appendM))
  (pu .next)) (thenM (iteM (cmp2 (var 5) (pu (.int 1)) eqM) (thenM (dropM (lmethM (var 3) (consM (methM (var 1) (consM (methM (var 4) (pu []) (getF .sys)) (pu [])) (setF .sys)) (pu [])) appendM))
  (pu .next)) (thenM (iteM (andM (cmp2 (var 5) (pu (.int 2)) eqM) (andM (cmp2 (methM (var 1) (pu []) (getF .enc)) (pu .none) isM) (pu true))) (thenM (dropM (lmethM (var 3) (consM (methM (var 1) (consM (methM (var 4) (pu []) (getF .enc)) (pu [])) (setF .enc)) (pu [])) appendM))
  (pu .next)) (thenM (iteM (cmp2 (var 5) (pu (.int 3)) eqM) (thenM (dropM (lmethM (var 3) (consM (methM (var 1) (consM (methM (var 4) (pu []) (getF .byt)) (pu [])) (setF .byt)) (pu [])) appendM))
  (pu .next)) (pu .next))
  (pu .next)))
  (pu .next)))
  (pu .next)))
  (pu .next)
noncomputable def B_law_answered_2 : Cm AF := thenM (iteM (cmp2 (methM (var 4) (pu []) (getF .pub)) (methM (var 1) (pu []) (getF .pub)) eqM) (thenM (forM' (bd (var 2) anyIt) sizeA nxA (setV 5) (B_law_answered_1))
  (thenM (retM (var 3))
  (pu .next))) (pu .next))
  (pu .next)
noncomputable def B_law_answered : Cm AF := thenM (asgM (bd (pu []) newLob) (setV 3))
  (thenM (forM' (bd (var 0) anyIt) sizeA nxA (setV 4) (B_law_answered_2))
  (thenM (retM (var 3))
  (pu .next)))
noncomputable def F_law_answered : List AV → Cm AV := runFn 3 3 B_law_answered
theorem k_law_answered (G : Gd (cx w h0 mg mb)) (hB : ∀ x : Str, x ≠ "__name__" → mb x = bootBuiltins x) : ImplF (cx w h0 mg mb) (n + 2) 127 F_law_answered :=
  fn_ok (names := ["entries", "source", "order"]) (others := ["answers", "entry", "field"]) (g := B_law_answered) G ⟨⟨_, _, _, by show List.lookup 127 (hd11.heap_39 w.params) = _; k_is⟩, rfl, rfl, rfl, rfl, by show codeIn (hd11.heap_39 w.params) _ _ = true; k_is, rfl, rfl, rfl, fun vals h => match vals, h with | [_, _, _], _ => rfl, by decide +kernel, by decide +kernel⟩
  (ImplS.cons (ImplS1.assign (ImplE.listMut (ImplEs.nil)) (ImplA.name (i := 3) rfl rfl))
  (ImplS.cons (ImplS1.for (size := sizeA) (gt := goesT) (ImplI.any (ImplE.name (i := 0) rfl (by decide +kernel))) (ImplA.name (i := 4) rfl rfl) (ImplS.cons (ImplS1.ite (ImplT.cmp (ImplE.meth G cls m_getPublicId (ImplE.name (i := 4) rfl (by decide +kernel)) (ImplEs.nil) (f_getPublicId G)) (ImplE.meth G cls m_getPublicId (ImplE.name (i := 1) rfl (by decide +kernel)) (ImplEs.nil) (f_getPublicId G)) eq_ok) (ImplS.cons (ImplS1.for (size := sizeA) (gt := goesT) (ImplI.any (ImplE.name (i := 2) rfl (by decide +kernel))) (ImplA.name (i := 5) rfl rfl) (ImplS.cons (ImplS1.ite (ImplT.cmp (ImplE.name (i := 5) rfl (by decide +kernel)) (ImplE.cint) eq_ok) (ImplS.cons (ImplS1.expr (ImplE.lmeth PySem.F.slot_list_append rfl (ImplE.name (i := 3) rfl (by decide +kernel)) (ImplEs.cons (ImplE.meth G cls m_setCharacterStream (ImplE.name (i := 1) rfl (by decide +kernel)) (ImplEs.cons (ImplE.meth G cls m_getCharacterStream (ImplE.name (i := 4) rfl (by decide +kernel)) (ImplEs.nil) (f_getCharacterStream G)) (ImplEs.nil)) (f_setCharacterStream G)) (ImplEs.nil)) append_ok))
  (ImplS.nil)) (ImplS.cons (ImplS1.ite (ImplT.cmp (ImplE.name (i := 5) rfl (by decide +kernel)) (ImplE.cint) eq_ok) (ImplS.cons (ImplS1.expr (ImplE.lmeth PySem.F.slot_list_append rfl (ImplE.name (i := 3) rfl (by decide +kernel)) (ImplEs.cons (ImplE.meth G cls m_setSystemId (ImplE.name (i := 1) rfl (by decide +kernel)) (ImplEs.cons (ImplE.meth G cls m_getSystemId (ImplE.name (i := 4) rfl (by decide +kernel)) (ImplEs.nil) (f_getSystemId G)) (ImplEs.nil)) (f_setSystemId G)) (ImplEs.nil)) append_ok))
  (ImplS.nil)) (ImplS.cons (ImplS1.ite (ImplT.bool (ImplTs.and (ImplT.cmp (ImplE.name (i := 5) rfl (by decide +kernel)) (ImplE.cint) eq_ok) (ImplTs.and (ImplT.cmp (ImplE.meth G cls m_getEncoding (ImplE.name (i := 1) rfl (by decide +kernel)) (ImplEs.nil) (f_getEncoding G)) (ImplE.cnone) is_ok) (ImplTs.andNil)))) (ImplS.cons (ImplS1.expr (ImplE.lmeth PySem.F.slot_list_append rfl (ImplE.name (i := 3) rfl (by decide +kernel)) (ImplEs.cons (ImplE.meth G cls m_setEncoding (ImplE.name (i := 1) rfl (by decide +kernel)) (ImplEs.cons (ImplE.meth G cls m_getEncoding (ImplE.name (i := 4) rfl (by decide +kernel)) (ImplEs.nil) (f_getEncoding G)) (ImplEs.nil)) (f_setEncoding G)) (ImplEs.nil)) append_ok))
  (ImplS.nil)) (ImplS.cons (ImplS1.ite (ImplT.cmp (ImplE.name (i := 5) rfl (by decide +kernel)) (ImplE.cint) eq_ok) (ImplS.cons (ImplS1.expr (ImplE.lmeth PySem.F.slot_list_append rfl (ImplE.name (i := 3) rfl (by decide +kernel)) (ImplEs.cons (ImplE.meth G cls m_setByteStream (ImplE.name (i := 1) rfl (by decide +kernel)) (ImplEs.cons (ImplE.meth G cls m_getByteStream (ImplE.name (i := 4) rfl (by decide +kernel)) (ImplEs.nil) (f_getByteStream G)) (ImplEs.nil)) (f_setByteStream G)) (ImplEs.nil)) append_ok))
  (ImplS.nil)) (ImplS.nil))
  (ImplS.nil)))
  (ImplS.nil)))
  (ImplS.nil)))
  (ImplS.nil)))
  (ImplS.cons (ImplS1.ret (ImplE.name (i := 3) rfl (by decide +kernel)))
  (ImplS.nil))) (ImplS.nil))
  (ImplS.nil)))
  (ImplS.cons (ImplS1.ret (ImplE.name (i := 3) rfl (by decide +kernel)))
  (ImplS.nil))))
noncomputable def S1_5 : Cm AF := retM (boolV (cmp2 (var 5) (bin2 (bd (consM (pu .none) (pu [])) lstM) (bd (consM (var 5) (pu [])) lenM) mulM) eqM))
noncomputable def S3_1 : Cm AF := retM (pu (.bool false))
noncomputable def B_law_1 : Cm AF := thenM (S3_1)
  (pu .next)
noncomputable def S2_1 : Cm AF := iteM (cmp2 (bd (consM (var 6) (pu [])) (callM F_law_told)) (bin2 (bd (consM (bin2 (var 7) (pu (.int 0)) getItemM) (consM (bin2 (var 1) (bin2 (var 7) (pu (.int 1)) getItemM) getItemM) (pu []))) lstM) (sliceM (var 7) (partM (pu (.int 2))) (pu .none) (pu .none)) addM) neM) (B_law_1) (pu .next)
noncomputable def B_law_2 : Cm AF := thenM (S2_1)
  (pu .next)
noncomputable def S1_4 : Cm AF := forM' (bd (consM (var 3) (consM (var 4) (pu []))) zipIt) sizeZ nxZ (unpackM 2 (consA (setV 6) (consA (setV 7) (nilA)))) (B_law_2)
noncomputable def S5_5 : Cm AF := asgM (bd (consM (bin2 (sliceM (var 3) (partM (negM (pu (.int 4)))) (pu .none) (pu .none)) (bd (consM (var 10) (pu [])) lstM) addM) (consM (bin2 (sliceM (var 4) (partM (negM (pu (.int 4)))) (pu .none) (pu .none)) (bd (consM (var 7) (pu [])) lstM) addM) (pu []))) tupM) (swapM 2 (consA (setV 4) (consA (setV 3) (nilA))))
noncomputable def S5_4 : Cm AF := dropM (lmethM (var 5) (consM (var 11) (pu [])) extendM)
noncomputable def S5_3 : Cm AF := asgM (bd (consM (var 7) (consM (bin2 (var 1) (var 8) getItemM) (pu []))) (callM F_law_entry)) (unpackM 2 (consA (setV 10) (consA (setV 11) (nilA))))
noncomputable def S5_2 : Cm AF := dropM (lmethM (var 7) (consM (bd (consM (bin2 (bd (consM (pu .none) (consM (pu (.bytes (List.toArray []))) (consM (pu (.bytes (List.toArray [49]))) (pu [])))) lstM) (bin2 (bin2 (var 9) (pu (.int 4)) divM) (pu (.int 3)) modM) getItemM) (consM (bin2 (bd (consM (pu .none) (consM (pu (.str "")) (consM (pu (.str "c")) (pu [])))) lstM) (bin2 (bin2 (var 9) (pu (.int 2)) divM) (pu (.int 3)) modM) getItemM) (pu []))) lstM) (pu [])) extendM)
noncomputable def S5_1 : Cm AF := asgM (bd (consM (bin2 (bd (consM (pu .none) (consM (pu (.str "")) (consM (pu (.str "s")) (consM (pu (.str "S")) (pu []))))) lstM) (bin2 (var 9) (pu (.int 4)) modM) getItemM) (consM (var 8) (consM (bin2 (bd (consM (pu .none) (consM (pu (.str "")) (consM (pu (.str "E")) (pu [])))) lstM) (bin2 (var 9) (pu (.int 3)) modM) getItemM) (pu [])))) newLob) (setV 7)
noncomputable def B_law_3 : Cm AF := thenM (S5_1)
  (thenM (S5_2)
  (thenM (S5_3)
  (thenM (S5_4)
  (thenM (S5_5)
  (pu .next)))))
noncomputable def S7_2 : Cm AF := asgM (var 8) (fun v => bd (bin2 (var 4) (bin2 (var 9) (bd (consM (var 3) (pu [])) lenM) modM) getItemM) fun x => bd (pu (.int 1)) fun y => setItemM x y v)
noncomputable def S7_1 : Cm AF := dropM (lmethM (var 5) (consM (methM (bin2 (var 3) (bin2 (var 9) (bd (consM (var 3) (pu [])) lenM) modM) getItemM) (consM (bin2 (var 1) (var 8) getItemM) (pu [])) (setF .pub)) (pu [])) appendM)
noncomputable def B_law_4 : Cm AF := thenM (S7_1)
  (thenM (S7_2)
  (pu .next))
noncomputable def S9_1 : Cm AF := asgM (bd (consM (bin2 (bd (consM (var 15) (pu [])) lstM) (sliceM (var 3) (pu .none) (partM (pu (.int 4))) (pu .none)) addM) (consM (bin2 (bd (consM (var 7) (pu [])) lstM) (sliceM (var 4) (pu .none) (partM (pu (.int 4))) (pu .none)) addM) (pu []))) tupM) (swapM 2 (consA (setV 4) (consA (setV 3) (nilA))))
noncomputable def B_law_5 : Cm AF := thenM (S9_1)
  (pu .next)
noncomputable def S8_10 : Cm AF := iteM (cmp2 (bin2 (var 2) (pu (.int 4)) modM) (pu (.int 3)) eqM) (B_law_5) (pu .next)
noncomputable def S11_1 : Cm AF := retM (pu (.bool false))
noncomputable def B_law_6 : Cm AF := thenM (S11_1)
  (pu .next)
noncomputable def S10_1 : Cm AF := iteM (cmp2 (var 14) (bin2 (bd (consM (bin2 (var 7) (pu (.int 0)) getItemM) (consM (bin2 (var 1) (var 8) getItemM) (pu []))) lstM) (sliceM (var 7) (partM (pu (.int 2))) (pu .none) (pu .none)) addM) neM) (B_law_6) (pu .next)
noncomputable def B_law_7 : Cm AF := thenM (S10_1)
  (pu .next)
noncomputable def S8_9 : Cm AF := forM' (bd (bd (consM (bd (consM (var 15) (pu [])) (callM F_law_told)) (consM (bd (consM (var 15) (pu [])) (callM F_law_told)) (pu []))) lstM) lstIt) sizeL nxL (setV 14) (B_law_7)
noncomputable def S12_1 : Cm AF := asgM (bd (consM (bin2 (var 13) (pu (.int 0)) getItemM) (consM (var 8) (consM (iteM (cmp2 (bin2 (var 7) (pu (.int 2)) getItemM) (pu .none) isM) (bin2 (var 13) (pu (.int 2)) getItemM) (bin2 (var 7) (pu (.int 2)) getItemM)) (consM (bin2 (var 13) (pu (.int 3)) getItemM) (consM (bin2 (var 13) (pu (.int 4)) getItemM) (pu [])))))) newLob) (setV 7)
noncomputable def B_law_8 : Cm AF := thenM (S12_1)
  (pu .next)
noncomputable def S8_5 : Cm AF := dropM (lmethM (var 5) (consM (bd (consM (var 3) (consM (var 15) (consM (iteM (cmp2 (bin2 (var 9) (pu (.int 2)) modM) (pu (.int 0)) eqM) (bd (consM (pu (.int 0)) (consM (pu (.int 1)) (consM (pu (.int 2)) (consM (pu (.int 3)) (pu []))))) lstM) (bd (consM (pu (.int 3)) (consM (pu (.int 2)) (consM (pu (.int 1)) (consM (pu (.int 0)) (pu []))))) lstM)) (pu [])))) (callM F_law_answered)) (pu [])) extendM)
noncomputable def S13_1 : Cm AF := retM (pu (.bool false))
noncomputable def B_law_9 : Cm AF := thenM (S13_1)
  (pu .next)
noncomputable def S8_4 : Cm AF := iteM (cmp2 (bd (consM (var 15) (pu [])) (callM F_law_told)) (bd (consM (pu (.str "q")) (consM (bin2 (var 1) (var 8) getItemM) (consM (bin2 (var 7) (pu (.int 2)) getItemM) (consM (pu .none) (consM (pu .none) (pu [])))))) lstM) neM) (B_law_9) (pu .next)
noncomputable def S14_1 : Cm AF := dropM (lmethM (var 5) (consM (methM (var 15) (consM (bin2 (var 1) (var 8) getItemM) (pu [])) (setF .pub)) (pu [])) appendM)
noncomputable def B_law_10 : Cm AF := thenM (S14_1)
  (pu .next)
noncomputable def S8_3 : Cm AF := iteM (cmp2 (var 8) (pu (.int 0)) gtM) (B_law_10) (pu .next)
noncomputable def S15_1 : Cm AF := dropM (lmethM (var 5) (consM (methM (var 15) (consM (bin2 (var 7) (pu (.int 2)) getItemM) (pu [])) (setF .enc)) (pu [])) appendM)
noncomputable def B_law_11 : Cm AF := thenM (S15_1)
  (pu .next)
noncomputable def S8_2 : Cm AF := iteM (cmp2 (bin2 (var 7) (pu (.int 2)) getItemM) (pu .none) isNotM) (B_law_11) (pu .next)
noncomputable def S8_1 : Cm AF := asgM (bd (consM (bd (consM (pu (.str "q")) (pu [])) newM) (consM (bd (consM (pu (.str "q")) (consM (var 8) (consM (bin2 (bd (consM (pu .none) (consM (pu (.str "")) (consM (pu (.str "Q")) (pu [])))) lstM) (bin2 (var 9) (pu (.int 3)) modM) getItemM) (consM (pu .none) (consM (pu .none) (pu [])))))) newLob) (pu []))) tupM) (swapM 2 (consA (setV 7) (consA (setV 15) (nilA))))
noncomputable def B_law_12 : Cm AF := thenM (S8_1)
  (thenM (S8_2)
  (thenM (S8_3)
  (thenM (S8_4)
  (thenM (S8_5)
  (tableM 12 13 8 (bd (sliceM (var 4) (pu .none) (pu .none) (partM (negM (pu (.int 1))))) lstIt) B_law_8
  (thenM (S8_9)
  (thenM (S8_10)
  (pu .next))))))))
noncomputable def S6_1 : Cm AF := iteM (cmp2 (bin2 (var 2) (pu (.int 4)) modM) (pu (.int 1)) eqM) (B_law_4) (B_law_12)
noncomputable def B_law_13 : Cm AF := thenM (S6_1)
  (pu .next)
noncomputable def S4_2 : Cm AF := iteM (cmp2 (bin2 (var 2) (pu (.int 4)) modM) (pu (.int 0)) eqM) (B_law_3) (B_law_13)
noncomputable def S4_1 : Cm AF := asgM (bd (consM (bin2 (bin2 (var 2) (pu (.int 4)) divM) (pu (.int 5)) modM) (consM (bin2 (var 2) (pu (.int 20)) divM) (pu []))) tupM) (swapM 2 (consA (setV 9) (consA (setV 8) (nilA))))
noncomputable def B_law_14 : Cm AF := thenM (S4_1)
  (thenM (S4_2)
  (pu .next))
noncomputable def S1_3 : Cm AF := forM' (bd (bin2 (bd (consM (pu (.int 208)) (consM (pu (.int 92)) (consM (pu (.int 64)) (consM (pu (.int 29)) (consM (pu (.int 63)) (consM (pu (.int 22)) (consM (pu (.int 10)) (consM (pu (.int 70)) (pu []))))))))) lstM) (var 0) addM) lstIt) sizeL nxL (setV 2) (B_law_14)
noncomputable def S1_2 : Cm AF := asgM (bd (consM (bd (pu []) lstM) (consM (bd (pu []) lstM) (consM (bd (pu []) newLob) (pu [])))) tupM) (swapM 3 (consA (setV 5) (consA (setV 4) (consA (setV 3) (nilA)))))
noncomputable def S1_1 : Cm AF := asgM (bd (consM (pu .none) (consM (pu (.str "")) (consM (pu (.str "-//A//EN")) (consM (pu (.str "-//a//EN")) (consM (pu (.str " -//A  //EN ")) (pu [])))))) lstM) (setV 1)
noncomputable def B_law : Cm AF := thenM (S1_1)
  (thenM (S1_2)
  (thenM (S1_3)
  (thenM (S1_4)
  (thenM (S1_5)
  (pu .next)))))
noncomputable def V_law : List Str := ["script", "publics", "x", "entries", "record", "answers", "entry", "due", "p", "more", "new", "given", "table", "row", "told", "asked"]
/- the law: level 2 -/
end

set_option linter.unusedSimpArgs false
noncomputable def AV.isU : AV → Bool
  | .unb => true
  | _ => false
theorem var_eq (i : Nat) (st : AS) : var i st = match st.loc[i]? with | some v => if v.isU = true then .none else some (v, st) | .none => .none := by
  unfold var
  cases st.loc[i]? with
  | none => rfl
  | some v => cases v <;> rfl
theorem u_none : AV.none.isU = false := rfl
theorem u_bool (b : Bool) : (AV.bool b).isU = false := rfl
theorem u_int (i : Int) : (AV.int i).isU = false := rfl
theorem u_str (i : Str) : (AV.str i).isU = false := rfl
theorem u_bytes (i : Array UInt8) : (AV.bytes i).isU = false := rfl
theorem u_ins (i : Nat) : (AV.ins i).isU = false := rfl
theorem u_lob (i : Nat) : (AV.lob i).isU = false := rfl
theorem u_lst (i : List AV) : (AV.lst i).isU = false := rfl
theorem u_lsb (i : List AV) : (AV.lsb i).isU = false := rfl
theorem u_tup (i : List AV) : (AV.tup i).isU = false := rfl
noncomputable def AV.pl : AV → Bool
  | .none => true
  | .int _ => true
  | .str _ => true
  | .bytes _ => true
  | _ => false
theorem pl_u {v : AV} (h : v.pl = true) : v.isU = false := by cases v <;> first | rfl | cases h
theorem pl_eq {v : AV} (h : v.pl = true) (st : AS) (d : Nat) : eqF st (d + 1) v v = some true := by cases v <;> first | simp [eqF]; done | cases h
theorem then_next {f g : Cm AF} {st st1 : AS} (h : f st = some (.next, st1)) : thenM f g st = g st1 := by rw [thenM, bd, h]
theorem then_ret {f g : Cm AF} {st st1 : AS} {v : AV} (h : f st = some (.ret v, st1)) : thenM f g st = some (.ret v, st1) := by rw [thenM, bd, h]; rfl
theorem ite_t {α : Type} {t : Cm Bool} {f g : Cm α} {st st1 : AS} (h : t st = some (true, st1)) : iteM t f g st = f st1 := by rw [iteM, bd, h]; rfl
theorem ite_f {α : Type} {t : Cm Bool} {f g : Cm α} {st st1 : AS} (h : t st = some (false, st1)) : iteM t f g st = g st1 := by rw [iteM, bd, h]; rfl
theorem bd_is {α β : Type} {f : Cm α} {g : α → Cm β} {st st1 : AS} {a : α} (h : f st = some (a, st1)) : bd f g st = g a st1 := by rw [bd, h]
theorem eqAll_nones (st : AS) : ∀ (xs : List AV), (∀ x ∈ xs, x = .none) → eqAll (eqF st 7) xs (List.replicate xs.length .none) = some true
  | [], _ => rfl
  | x :: xs, h => by
    have hx : x = .none := h x List.mem_cons_self
    have ih := eqAll_nones st xs (fun y hy => h y (List.mem_cons_of_mem _ hy))
    subst hx
    have e : eqF st 7 .none .none = some true := rfl
    rw [List.length_cons, List.replicate_succ]
    simp [eqAll, e, ih]
theorem look_put_self {k : Nat} {xs ys : List AV} : ∀ {g : List (Nat × List AV)}, lookL k g = some xs → lookL k (putSeg k ys g) = some ys
  | [], h => by cases h
  | (j, zs) :: r, h => by
    by_cases q : k = j
    · simp [putSeg, lookL, q]
    · simp only [lookL, if_neg q] at h
      simp only [putSeg, if_neg q, lookL]
      exact look_put_self h
theorem look_put_ne {j k : Nat} {ys : List AV} (h : j ≠ k) : ∀ (g : List (Nat × List AV)), lookL j (putSeg k ys g) = lookL j g
  | [] => rfl
  | (i, zs) :: r => by
    by_cases q : k = i
    · subst q; simp [putSeg, lookL, h]
    · simp only [putSeg, if_neg q, lookL, look_put_ne h r]
theorem get_put_self {k : Nat} {xs ys : List AV} : ∀ {l : LH}, getL1 k l = some xs → getL1 k (putL1 k ys l) = some ys
  | [], h => by cases h
  | g :: r, h => by
    unfold getL1 at h
    cases q : lookL k g with
    | some zs => simp only [putL1, q, getL1, look_put_self q]
    | none =>
      simp only [q] at h
      simp only [putL1, q, getL1]
      exact get_put_self h
theorem get_put_ne {j k : Nat} {ys : List AV} (h : j ≠ k) : ∀ (l : LH), getL1 j (putL1 k ys l) = getL1 j l
  | [] => rfl
  | g :: r => by
    cases q : lookL k g with
    | some zs => simp only [putL1, q, getL1, look_put_ne h]
    | none => simp only [putL1, q, getL1, get_put_ne h r]
theorem get_push_self {k : Nat} {xs : List AV} (l : LH) : getL1 k (pushL1 k xs l) = some xs := by
  cases l <;> simp [pushL1, getL1, lookL]
theorem get_push_ne {j k : Nat} {xs : List AV} (h : j ≠ k) (l : LH) : getL1 j (pushL1 k xs l) = getL1 j l := by
  cases l <;> simp [pushL1, getL1, lookL, h]
theorem range_pick {α : Type} (xs : List α) : ∀ k, k ≤ xs.length → (List.range k).filterMap (xs[·]?) = xs.take k
  | 0, _ => by simp
  | k + 1, h => by
    rw [List.range_succ, List.filterMap_append, range_pick xs k (by omega), List.take_add_one]
    have : xs[k]? = some xs[k] := List.getElem?_eq_getElem (by omega)
    simp [this]
theorem pick_take {α : Type} (xs : List α) (h : Nat) : pickA xs .none (some (h : Int)) .none = xs.take h := by
  unfold pickA sliceBounds sliceRange
  simp only [Option.getD_none]
  have e0 : ¬ ((h : Int) < 0) := by omega
  simp only [e0, if_false, show (1 : Int) > 0 from by decide, if_true]
  have e1 : max 0 (min (h : Int) xs.length) = ((min h xs.length : Nat) : Int) := by omega
  rw [e1]
  have e2 : ((if (0 : Int) < ((min h xs.length : Nat) : Int) then (((min h xs.length : Nat) : Int) - 0 + 1 - 1) / 1 else 0) : Int).toNat = min h xs.length := by
    split
    · simp only [Int.ediv_one]; omega
    · omega
  rw [e2]
  have e3 : ((List.range (min h xs.length)).map fun (k : Nat) => ((0 : Int) + 1 * (k : Int)).toNat) = List.range (min h xs.length) := by
    rw [List.map_congr_left (g := id) (fun k _ => by simp), List.map_id]
  rw [e3, range_pick xs _ (by omega), List.take_eq_take_iff]
  omega
theorem down_pick {α : Type} (xs : List α) : ∀ k, k ≤ xs.length → ((List.range k).map fun j => xs.length - 1 - j).filterMap (xs[·]?) = (xs.drop (xs.length - k)).reverse
  | 0, _ => by simp
  | k + 1, h => by
    rw [List.range_succ, List.map_append, List.filterMap_append, down_pick xs k (by omega)]
    have e : xs[xs.length - 1 - k]? = some xs[xs.length - 1 - k] := List.getElem?_eq_getElem (by omega)
    have e2 : xs.length - (k + 1) = xs.length - 1 - k := by omega
    rw [e2, List.drop_eq_getElem_cons (i := xs.length - 1 - k) (l := xs) (by omega), List.reverse_cons, show xs.length - 1 - k + 1 = xs.length - k from by omega]
    simp [e]
theorem pick_rev {α : Type} (xs : List α) : pickA xs .none .none (some (-1)) = xs.reverse := by
  unfold pickA sliceBounds sliceRange
  simp only [Option.getD_some]
  simp only [show ¬ ((-1 : Int) > 0) from by decide, if_false]
  have e2 : ((if (xs.length : Int) - 1 > -1 then ((xs.length : Int) - 1 - -1 - -1 - 1) / -(-1) else 0) : Int).toNat = xs.length := by
    split
    · simp only [Int.neg_neg, Int.ediv_one]; omega
    · omega
  rw [e2]
  have e3 : ((List.range xs.length).map fun (k : Nat) => ((xs.length : Int) - 1 + -1 * (k : Int)).toNat) = (List.range xs.length).map fun j => xs.length - 1 - j := by
    apply List.map_congr_left
    intro k hk
    have := List.mem_range.mp hk
    omega
  rw [e3, down_pick xs _ (Nat.le_refl _)]
  simp
theorem pick_drop {α : Type} (xs : List α) (h : Nat) : pickA xs (some (h : Int)) .none .none = xs.drop h := by
  unfold pickA sliceBounds sliceRange
  simp only [Option.getD_none]
  have e0 : ¬ ((h : Int) < 0) := by omega
  simp only [e0, if_false, show (1 : Int) > 0 from by decide, if_true]
  have e1 : max 0 (min (h : Int) xs.length) = ((min h xs.length : Nat) : Int) := by omega
  rw [e1]
  have e2 : ((if ((min h xs.length : Nat) : Int) < (xs.length : Int) then ((xs.length : Int) - ((min h xs.length : Nat) : Int) + 1 - 1) / 1 else 0) : Int).toNat = xs.length - min h xs.length := by
    split
    · simp only [Int.ediv_one]; omega
    · omega
  rw [e2]
  have e3 : ((List.range (xs.length - min h xs.length)).map fun (k : Nat) => (((min h xs.length : Nat) : Int) + 1 * (k : Int)).toNat) = (List.range (xs.length - min h xs.length)).map fun k => min h xs.length + k := by
    apply List.map_congr_left
    intro k _
    omega
  rw [e3, show xs.drop h = xs.drop (min h xs.length) from by
    by_cases q : h ≤ xs.length
    · rw [Nat.min_eq_left q]
    · rw [Nat.min_eq_right (by omega), List.drop_eq_nil_of_le (by omega), List.drop_eq_nil_of_le (by omega)]]
  generalize min h xs.length = m
  have g : ∀ k, m + k ≤ xs.length → ((List.range k).map fun j => m + j).filterMap (xs[·]?) = (xs.drop m).take k := by
    intro k
    induction k with
    | zero => intro _; simp
    | succ k ih =>
      intro hk
      rw [List.range_succ, List.map_append, List.filterMap_append, ih (by omega), List.take_add_one]
      have : xs[m + k]? = some xs[m + k] := List.getElem?_eq_getElem (by omega)
      simp [this]
  by_cases q : m ≤ xs.length
  · rw [g _ (by omega), List.take_of_length_le]; simp
  · rw [show xs.length - m = 0 from by omega, List.drop_eq_nil_of_le (by omega)]; rfl
theorem forG_next {σ : Type} {nx : σ → AS → Option (Option (AV × σ))} {tgt : AV → Cm Unit} {body : Cm AF} {m : Nat} {i i' : σ} {x : AV} {st : AS} (h : nx i st = some (some (x, i'))) : forG nx tgt body (m + 1) i st = (bd (tgt x) fun _ => thenM body (forG nx tgt body m i')) st := by
  rw [forG]; simp only [h]
theorem forL_cons {tgt : AV → Cm Unit} {body : Cm AF} {x : AV} {xs : List AV} {k : Nat} {st st1 st2 : AS} (h1 : tgt x st = some ((), st1)) (h2 : body st1 = some (.next, st2)) : forG nxL tgt body (k + 1) (x :: xs) st = forG nxL tgt body k xs st2 := by
  rw [forG_next (i' := xs) (x := x) rfl, bd_is h1, then_next h2]
theorem forL_is {f : Cm (List AV)} {tgt : AV → Cm Unit} {body : Cm AF} {xs : List AV} {st st1 : AS} {R : Option (AF × AS)} (h1 : f st = some (xs, st1)) (h2 : forG nxL tgt body (xs.length + 1) xs st1 = R) : forM' f sizeL nxL tgt body st = R := by
  rw [forM', bd_is h1]; exact h2
theorem forA_next {tgt : AV → Cm Unit} {body : Cm AF} {X x : AV} {xs : List AV} {i k : Nat} {st s' st1 st2 : AS} (h0 : itemsM X st = some (xs, s')) (hx : xs[i]? = some x) (h1 : tgt x st = some ((), st1)) (h2 : body st1 = some (.next, st2)) : forG nxA tgt body (k + 1) (X, i) st = forG nxA tgt body k (X, i + 1) st2 := by
  rw [forG_next (i' := (X, i + 1)) (x := x) (by simp only [nxA, h0, hx]), bd_is h1, then_next h2]
theorem forA_end {tgt : AV → Cm Unit} {body : Cm AF} {X : AV} {xs : List AV} {i k : Nat} {st s' : AS} (h0 : itemsM X st = some (xs, s')) (hx : xs.length ≤ i) : forG nxA tgt body (k + 1) (X, i) st = some (.next, st) := by
  have hn : xs[i]? = .none := by rw [List.getElem?_eq_none_iff]; exact hx
  rw [forG]; simp only [nxA, h0, hn]
theorem forA_is {f : Cm AV} {tgt : AV → Cm Unit} {body : Cm AF} {X : AV} {xs : List AV} {st st1 s' : AS} {R : Option (AF × AS)} (h1 : f st = some (X, st1)) (h0 : itemsM X st1 = some (xs, s')) (h2 : forG nxA tgt body (xs.length + 1) (X, 0) st1 = R) : forM' (bd f anyIt) sizeA nxA tgt body st = R := by
  have e : bd f anyIt st = some ((X, 0), st1) := by rw [bd_is h1]; simp only [anyIt, h0]
  rw [forM', bd_is e]
  simp only [sizeA, h0]; exact h2
theorem item_lob {a k : Nat} {L : LH} {xs : List AV} {v : AV} (h : getL1 a L = some xs) (hl : xs.length ≤ 100000) (hx : xs[k]? = some v) (loc : List AV) (ins : List Ins) (N : Nat) : getItemM (.lob a) (.int (k : Int)) ⟨loc, ins, L, N⟩ = some (v, ⟨loc, ins, L, N⟩) := by
  simp [getItemM, itemsM, h, hl, idxM, hx]
theorem item_lst {k : Nat} {xs : List AV} {v : AV} (hl : xs.length ≤ 100000) (hx : xs[k]? = some v) (st : AS) : getItemM (.lst xs) (.int (k : Int)) st = some (v, st) := by
  simp [getItemM, itemsM, hl, idxM, hx]
theorem call_ret {k m : Nat} {g : Cm AF} {xs : List AV} {loc l' : List AV} {ins ins' : List Ins} {L L' : LH} {N N' : Nat} {v : AV} {seg : List (Nat × List AV)} (hx : xs.length = k) (h : g ⟨xs ++ List.replicate m .unb, ins, [] :: L, N⟩ = some (.ret v, ⟨l', ins', seg :: L', N'⟩)) :
    callM (runFn k m g) xs ⟨loc, ins, L, N⟩ = some (frzV seg v, ⟨loc, ins', L', N'⟩) := by
  simp only [callM, runFn, runFnG, hx, if_true, h, endFn]
theorem forZ_next {tgt : AV → Cm Unit} {body : Cm AF} {ls ts : List (List AV)} {hs : List AV} {k : Nat} {st st1 st2 : AS} (h : heads ls = some (hs, ts)) (h1 : tgt (.tup hs) st = some ((), st1)) (h2 : body st1 = some (.next, st2)) : forG nxZ tgt body (k + 1) ls st = forG nxZ tgt body k ts st2 := by
  rw [forG_next (i' := ts) (x := .tup hs) (by simp only [nxZ, h]), bd_is h1, then_next h2]
theorem forZ_end {tgt : AV → Cm Unit} {body : Cm AF} {ls : List (List AV)} {k : Nat} {st : AS} (h : heads ls = .none) : forG nxZ tgt body (k + 1) ls st = some (.next, st) := by
  rw [forG]; simp only [nxZ, h]/-! the plain law -/
noncomputable def pubA : Nat → AV
  | 0 => .none
  | 1 => .str ""
  | 2 => .str "-//A//EN"
  | 3 => .str "-//a//EN"
  | _ => .str " -//A  //EN "
noncomputable def pubs : List AV := [.none, .str "", .str "-//A//EN", .str "-//a//EN", .str " -//A  //EN "]
structure Ce where
  i : Nat
  d : Nat
  sys : AV
  p : Nat
  enc : AV
  byt : AV
  chr : AV
noncomputable def Ce.ins (c : Ce) : Ins := ⟨c.sys, pubA c.p, c.enc, c.byt, c.chr⟩
noncomputable def Ce.due (c : Ce) : List AV := [c.sys, .int (c.p : Int), c.enc, c.byt, c.chr]
structure Ce.ok (c : Ce) : Prop where
  p : c.p < 5
  sys : c.sys.pl = true
  enc : c.enc.pl = true
  byt : c.byt.pl = true
  chr : c.chr.pl = true
theorem five {k : Nat} (h : k < 5) : k = 0 ∨ k = 1 ∨ k = 2 ∨ k = 3 ∨ k = 4 := by omega
theorem pub_pl {p : Nat} (h : p < 5) : (pubA p).pl = true := by rcases five h with rfl | rfl | rfl | rfl | rfl <;> rfl
theorem pub_at {p : Nat} (h : p < 5) (st : AS) : getItemM (.lst pubs) (.int (p : Int)) st = some (pubA p, st) := by
  rcases five h with rfl | rfl | rfl | rfl | rfl <;> rfl
theorem pub_eq {p q : Nat} (hp : p < 5) (hq : q < 5) (st : AS) : eqF st 8 (pubA p) (pubA q) = some (decide (p = q)) := by
  rcases five hp with rfl | rfl | rfl | rfl | rfl <;> rcases five hq with rfl | rfl | rfl | rfl | rfl <;> first | rfl | (simp only [eqF, pubA]; decide +kernel)
theorem pl_is {v : AV} (h : v.pl = true) : isF v .none = some (match v with | .none => true | _ => false) := by cases v <;> first | rfl | cases h
noncomputable def isN : AV → Bool
  | .none => true
  | _ => false
theorem pl_isN {v : AV} (h : v.pl = true) : isF v .none = some (isN v) := by cases v <;> first | rfl | cases h
noncomputable def entL (es : List Ce) : List AV := es.map fun c => .ins c.i
noncomputable def rcL (es : List Ce) : List AV := es.map fun c => .lob c.d
structure Cat (es : List Ce) (I : List Ins) (L : LH) (N : Nat) : Prop where
  ok : ∀ c ∈ es, c.ok
  ins : ∀ c ∈ es, I[c.i]? = some c.ins
  due : ∀ c ∈ es, getL1 c.d L = some c.due
  pos : ∀ c ∈ es, 0 < c.d ∧ c.d < N
  ni : (es.map (·.i)).Nodup
  nd : (es.map (·.d)).Nodup
theorem Cat.frame {es : List Ce} {I I' : List Ins} {L L' : LH} {N N' : Nat} (h : Cat es I L N) (h1 : ∀ c ∈ es, I'[c.i]? = I[c.i]?) (h2 : ∀ c ∈ es, getL1 c.d L' = getL1 c.d L) (h3 : N ≤ N') : Cat es I' L' N' :=
  ⟨h.ok, fun c hc => (h1 c hc).trans (h.ins c hc), fun c hc => (h2 c hc).trans (h.due c hc), fun c hc => ⟨(h.pos c hc).1, Nat.lt_of_lt_of_le (h.pos c hc).2 h3⟩, h.ni, h.nd⟩
theorem Cat.sub {es es' : List Ce} {I : List Ins} {L : LH} {N : Nat} (h : Cat es I L N) (s : es'.Sublist es) : Cat es' I L N :=
  ⟨fun c hc => h.ok c (s.subset hc), fun c hc => h.ins c (s.subset hc), fun c hc => h.due c (s.subset hc), fun c hc => h.pos c (s.subset hc), (s.map _).nodup h.ni, (s.map _).nodup h.nd⟩
theorem Cat.lt {es : List Ce} {I : List Ins} {L : LH} {N : Nat} (h : Cat es I L N) {c : Ce} (hc : c ∈ es) : c.i < I.length := (List.getElem?_eq_some_iff.mp (h.ins c hc)).1
theorem Cat.perm {es es' : List Ce} {I : List Ins} {L : LH} {N : Nat} (h : Cat es I L N) (s : es'.Perm es) : Cat es' I L N :=
  ⟨fun c hc => h.ok c (s.subset hc), fun c hc => h.ins c (s.subset hc), fun c hc => h.due c (s.subset hc), fun c hc => h.pos c (s.subset hc), (s.map _).nodup_iff.mpr h.ni, (s.map _).nodup_iff.mpr h.nd⟩
theorem Cat.cons {es : List Ce} {I : List Ins} {L : LH} {N : Nat} (h : Cat es I L N) {c : Ce} (h1 : c.ok) (h2 : I[c.i]? = some c.ins) (h3 : getL1 c.d L = some c.due) (h4 : 0 < c.d ∧ c.d < N) (h5 : ∀ e ∈ es, e.i ≠ c.i) (h6 : ∀ e ∈ es, e.d ≠ c.d) : Cat (c :: es) I L N := by
  refine ⟨?_, ?_, ?_, ?_, ?_, ?_⟩
  · intro e he; rcases List.mem_cons.mp he with rfl | he; exact h1; exact h.ok e he
  · intro e he; rcases List.mem_cons.mp he with rfl | he; exact h2; exact h.ins e he
  · intro e he; rcases List.mem_cons.mp he with rfl | he; exact h3; exact h.due e he
  · intro e he; rcases List.mem_cons.mp he with rfl | he; exact h4; exact h.pos e he
  · rw [List.map_cons, List.nodup_cons]
    refine ⟨fun q => ?_, h.ni⟩
    obtain ⟨e, he, q⟩ := List.mem_map.mp q
    exact h5 e he q
  · rw [List.map_cons, List.nodup_cons]
    refine ⟨fun q => ?_, h.nd⟩
    obtain ⟨e, he, q⟩ := List.mem_map.mp q
    exact h6 e he q
/-- the answers so far -/
noncomputable def Ans (L : LH) (k : Nat) : Prop := ∃ as, getL1 0 L = some as ∧ (∀ x ∈ as, x = .none) ∧ as.length ≤ k
theorem Ans.frame {L L' : LH} {k : Nat} (h : Ans L k) (e : getL1 0 L' = getL1 0 L) : Ans L' k := let ⟨as, h1, h2⟩ := h; ⟨as, e.trans h1, h2⟩
noncomputable def nones (xs : List AV) : Prop := ∀ x ∈ xs, x = AV.none
theorem Ans.more {L : LH} {k : Nat} (h : Ans L k) (ys : List AV) (hy : nones ys) : ∃ as, getL1 0 L = some as ∧ as.length ≤ k ∧ Ans (putL1 0 (as ++ ys) L) (k + ys.length) ∧ ∀ j, j ≠ 0 → getL1 j (putL1 0 (as ++ ys) L) = getL1 j L := by
  obtain ⟨as, h1, h2, h3⟩ := h
  refine ⟨as, h1, h3, ⟨as ++ ys, get_put_self h1, fun x hx => ?_, by simp; omega⟩, fun j hj => get_put_ne hj L⟩
  rcases List.mem_append.mp hx with q | q
  · exact h2 x q
  · exact hy x q
theorem set_last {α : Type} (I : List α) (a b : α) : (I ++ [a]).set I.length b = I ++ [b] := by simp
theorem get_last {α : Type} (I : List α) (a : α) : (I ++ [a])[I.length]? = some a := by simp
theorem get_old {α : Type} {I : List α} {a : α} {j : Nat} (h : j < I.length) : (I ++ [a])[j]? = I[j]? := List.getElem?_append_left h
/-- an index into a display -/
theorem pick_pl (n : Nat) (xs : List AV) (h : xs.length = n) (hn : 0 < n) (hs : n ≤ 1000) (hx : ∀ x ∈ xs, x.pl = true) (m : Int) : ∃ v, v.pl = true ∧ ∀ st, getItemM (.lst xs) (.int (m % (n : Int))) st = some (v, st) := by
  obtain ⟨k, hk, e⟩ : ∃ k : Nat, k < xs.length ∧ m % (n : Int) = (k : Int) := ⟨(m % (n : Int)).toNat, by rw [h]; have := Int.emod_nonneg m (show (n : Int) ≠ 0 by omega); have := Int.emod_lt_of_pos m (show (0 : Int) < n by omega); omega, by have := Int.emod_nonneg m (show (n : Int) ≠ 0 by omega); omega⟩
  refine ⟨xs[k], hx _ (List.getElem_mem hk), fun st => ?_⟩
  rw [e]
  exact item_lst (by omega) (List.getElem?_eq_getElem hk) st
/-- what a source tells -/
theorem told_is {k : Nat} {i : Ins} {I : List Ins} (h : I[k]? = some i) (loc : List AV) (L : LH) (N : Nat) : callM F_law_told [.ins k] ⟨loc, I, L, N⟩ = some (.lst [i.sys, i.pub, i.enc, i.byt, i.chr], ⟨loc, I, L, N⟩) := by
  simp [F_law_told, B_law_told, callM, runFn, runFnG, thenM, asgM, retM, dropM, iteM, bd, consM, methM, lmethM, chkL, var_eq, pu, no, getF, setF, attrM, putM, lstM, tupM, endFn, newM, newLob, blank, setV, u_none, u_bool, u_int, u_str, u_bytes, u_ins, u_lob, u_lst, u_lsb, u_tup, Ins.get, Ins.put, bin2, cmp2, boolV, andM, addM, modM, divM, gtM, addLM, mulLM, itemsM, items2M, lenM, getItemM, idxM, appendM, extendM, getL1, putL1, lookL, putSeg, pushL1, unpackM, consA, nilA, swapM, isM, isNotM, isF, frzV, frz0, h]
theorem entry_1 {d : Nat} {v sys : AV} {ds : List AV} {L : LH} {N : Nat} (h : getL1 d L = some ds) (h0 : ds[0]? = some sys) (hl : ds.length ≤ 5) (hs : sys.pl = true) (I : List Ins) :
    asgM (iteM (cmp2 (bin2 (var 0) (pu (.int 0)) getItemM) (pu .none) isM) (bd (pu []) newM) (bd (consM (bin2 (var 0) (pu (.int 0)) getItemM) (pu [])) newM)) (setV 2) ⟨[.lob d, v, .unb, .unb], I, [] :: L, N⟩ = some (.next, ⟨[.lob d, v, .ins I.length, .unb], I ++ [blank sys], [] :: L, N⟩) := by
  have hi := pl_isN hs
  have g : ∀ st : AS, st.lst = [] :: L → getItemM (.lob d) (.int 0) st = some (sys, st) := fun st e => by
    have : getL1 d st.lst = some ds := by rw [e]; exact h
    simp [getItemM, itemsM, this, idxM, h0, show ds.length ≤ 100000 by omega]
  have v0 : ∀ st : AS, st.loc = [.lob d, v, .unb, .unb] → var 0 st = some (.lob d, st) := fun st e => var_get (by rw [e]; rfl) (fun q => by cases q)
  have z : bin2 (var 0) (pu (.int 0)) getItemM ⟨[.lob d, v, .unb, .unb], I, [] :: L, N⟩ = some (sys, ⟨[.lob d, v, .unb, .unb], I, [] :: L, N⟩) := by
    simp only [bin2, bd, v0, pu, g]
  generalize bin2 (var 0) (pu (.int 0)) getItemM = B at z ⊢
  by_cases q : isN sys = true
  · have : sys = .none := by cases sys <;> first | rfl | cases q
    subst this
    simp only [asgM, iteM, bd, cmp2, z, pu, isM, isF, newM]; rfl
  · simp only [Bool.not_eq_true] at q
    rw [q] at hi
    simp only [asgM, iteM, bd, cmp2, z, pu, isM, hi, consM, newM, Bool.false_eq_true, if_false]; rfl
theorem entry_is {d : Nat} {v sys q enc byt chr : AV} {L : LH} {N : Nat} (h : getL1 d L = some [sys, q, enc, byt, chr]) (hd : d < N) (hv : v.isU = false) (hs : sys.pl = true) (loc : List AV) (I : List Ins) :
    callM F_law_entry [.lob d, v] ⟨loc, I, L, N⟩ = some (.tup [.ins I.length, .lst [.none, .none, .none, .none, .none, .none, .none]], ⟨loc, I ++ [⟨sys, v, enc, byt, chr⟩], L, N + 1⟩) := by
  have hne : ¬ d = N := by omega
  have e1 := entry_1 (v := v) (N := N) h rfl (by simp) hs I
  refine call_ret (v := .tup [.ins I.length, .lst [.none, .none, .none, .none, .none, .none, .none]]) (seg := [(N, [.none, .none, .none, .none, .none, .none])]) (l' := [.lob d, v, .ins I.length, .lob N]) rfl ((then_next e1).trans ?_)
  simp [callM, getF, setF, attrM, putM, Ins.get, Ins.put, blank, thenM, asgM, retM, dropM, iteM, bd, consM, methM, lmethM, chkL, var_eq, pu, no, lstM, tupM, newM, newLob, blank, setV, u_none, u_bool, u_int, u_str, u_bytes, u_ins, u_lob, u_lst, u_lsb, u_tup, bin2, cmp2, boolV, andM, addM, modM, divM, gtM, addLM, mulLM, itemsM, items2M, lenM, getItemM, idxM, appendM, extendM, getL1, putL1, lookL, putSeg, pushL1, unpackM, consA, nilA, swapM, isM, isNotM, isF, frzV, frz0, h, hv, hne, chkL]
--@@
noncomputable def updA (f : Nat) (a b : Ins) : Ins := match f with
  | 0 => { a with chr := b.chr }
  | 1 => { a with sys := b.sys }
  | 2 => if isN a.enc = true then { a with enc := b.enc } else a
  | _ => { a with byt := b.byt }
theorem four {k : Nat} (h : k < 4) : k = 0 ∨ k = 1 ∨ k = 2 ∨ k = 3 := by omega
theorem ans_step {f k j N : Nat} {E o : AV} {I : List Ins} {L : LH} {as : List AV} {a b : Ins} (hf : f < 4) (hk : I[k]? = some a) (hj : I[j]? = some b) (hkj : k ≠ j) (ha : a.enc.pl = true) (h1 : nones as) (h2 : as.length ≤ 1000) :
    ∃ as', nones as' ∧ as'.length ≤ as.length + 1 ∧ B_law_answered_1 ⟨[E, .ins k, o, .lob N, .ins j, .int (f : Int)], I, [(N, as)] :: L, N + 1⟩ = some (.next, ⟨[E, .ins k, o, .lob N, .ins j, .int (f : Int)], I.set k (updA f a b), [(N, as')] :: L, N + 1⟩) := by
  have g : nones (as ++ [.none]) := fun x hx => by
    rcases List.mem_append.mp hx with q | q
    · exact h1 x q
    · simpa using q
  have h3 : as.length ≤ 100000 := by omega
  have hi := pl_isN ha
  have hself : I.set k a = I := by
    apply List.ext_getElem?
    intro m
    by_cases q : k = m
    · subst q
      have : k < I.length := (List.getElem?_eq_some_iff.mp hk).1
      rw [List.getElem?_set_self this, hk]
    · rw [List.getElem?_set_ne q]
  rcases four hf with rfl | rfl | rfl | rfl
  · exact ⟨as ++ [.none], g, by simp, by simp [B_law_answered_1, callM, runFn, runFnG, thenM, asgM, retM, dropM, iteM, bd, consM, methM, lmethM, chkL, var_eq, pu, no, getF, setF, attrM, putM, lstM, tupM, endFn, newM, newLob, blank, setV, u_none, u_bool, u_int, u_str, u_bytes, u_ins, u_lob, u_lst, u_lsb, u_tup, Ins.get, Ins.put, bin2, cmp2, boolV, andM, addM, modM, divM, gtM, addLM, mulLM, itemsM, items2M, lenM, getItemM, idxM, appendM, extendM, getL1, putL1, lookL, putSeg, pushL1, unpackM, consA, nilA, swapM, isM, isNotM, isF, frzV, frz0, -isF, eqM, eqF, hk, hj, chkL, h3, updA]⟩
  · exact ⟨as ++ [.none], g, by simp, by simp [B_law_answered_1, callM, runFn, runFnG, thenM, asgM, retM, dropM, iteM, bd, consM, methM, lmethM, chkL, var_eq, pu, no, getF, setF, attrM, putM, lstM, tupM, endFn, newM, newLob, blank, setV, u_none, u_bool, u_int, u_str, u_bytes, u_ins, u_lob, u_lst, u_lsb, u_tup, Ins.get, Ins.put, bin2, cmp2, boolV, andM, addM, modM, divM, gtM, addLM, mulLM, itemsM, items2M, lenM, getItemM, idxM, appendM, extendM, getL1, putL1, lookL, putSeg, pushL1, unpackM, consA, nilA, swapM, isM, isNotM, isF, frzV, frz0, -isF, eqM, eqF, hk, hj, chkL, h3, updA]⟩
  · by_cases q : isN a.enc = true
    · rw [q] at hi
      exact ⟨as ++ [.none], g, by simp, by simp [B_law_answered_1, callM, runFn, runFnG, thenM, asgM, retM, dropM, iteM, bd, consM, methM, lmethM, chkL, var_eq, pu, no, getF, setF, attrM, putM, lstM, tupM, endFn, newM, newLob, blank, setV, u_none, u_bool, u_int, u_str, u_bytes, u_ins, u_lob, u_lst, u_lsb, u_tup, Ins.get, Ins.put, bin2, cmp2, boolV, andM, addM, modM, divM, gtM, addLM, mulLM, itemsM, items2M, lenM, getItemM, idxM, appendM, extendM, getL1, putL1, lookL, putSeg, pushL1, unpackM, consA, nilA, swapM, isM, isNotM, isF, frzV, frz0, -isF, eqM, eqF, hk, hj, chkL, h3, updA, hi, q]⟩
    · simp only [Bool.not_eq_true] at q
      rw [q] at hi
      exact ⟨as, h1, by omega, by simp [B_law_answered_1, callM, runFn, runFnG, thenM, asgM, retM, dropM, iteM, bd, consM, methM, lmethM, chkL, var_eq, pu, no, getF, setF, attrM, putM, lstM, tupM, endFn, newM, newLob, blank, setV, u_none, u_bool, u_int, u_str, u_bytes, u_ins, u_lob, u_lst, u_lsb, u_tup, Ins.get, Ins.put, bin2, cmp2, boolV, andM, addM, modM, divM, gtM, addLM, mulLM, itemsM, items2M, lenM, getItemM, idxM, appendM, extendM, getL1, putL1, lookL, putSeg, pushL1, unpackM, consA, nilA, swapM, isM, isNotM, isF, frzV, frz0, -isF, eqM, eqF, hk, hj, chkL, h3, updA, hi, q, hself]⟩
  · exact ⟨as ++ [.none], g, by simp, by simp [B_law_answered_1, callM, runFn, runFnG, thenM, asgM, retM, dropM, iteM, bd, consM, methM, lmethM, chkL, var_eq, pu, no, getF, setF, attrM, putM, lstM, tupM, endFn, newM, newLob, blank, setV, u_none, u_bool, u_int, u_str, u_bytes, u_ins, u_lob, u_lst, u_lsb, u_tup, Ins.get, Ins.put, bin2, cmp2, boolV, andM, addM, modM, divM, gtM, addLM, mulLM, itemsM, items2M, lenM, getItemM, idxM, appendM, extendM, getL1, putL1, lookL, putSeg, pushL1, unpackM, consA, nilA, swapM, isM, isNotM, isF, frzV, frz0, -isF, eqM, eqF, hk, hj, chkL, h3, updA]⟩
theorem updA_enc {f : Nat} {a b : Ins} (ha : a.enc.pl = true) (hb : b.enc.pl = true) : (updA f a b).enc.pl = true := by
  unfold updA
  split <;> first | exact ha | (split <;> assumption)
/-- the loop over the fields, four of them -/
theorem ans_four {f1 f2 f3 f4 : Nat} (g1 : f1 < 4) (g2 : f2 < 4) (g3 : f3 < 4) (g4 : f4 < 4) {k j N : Nat} {E w : AV} {I : List Ins} {L : LH} {as : List AV} {a b : Ins} (hk : I[k]? = some a) (hj : I[j]? = some b) (hkj : k ≠ j) (ha : a.enc.pl = true) (hb : b.enc.pl = true) (h1 : nones as) (h2 : as.length ≤ 100) :
    ∃ as' w', nones as' ∧ as'.length ≤ as.length + 4 ∧ forM' (bd (var 2) anyIt) sizeA nxA (setV 5) B_law_answered_1 ⟨[E, .ins k, .lst [.int (f1 : Int), .int (f2 : Int), .int (f3 : Int), .int (f4 : Int)], .lob N, .ins j, w], I, [(N, as)] :: L, N + 1⟩ = some (.next, ⟨[E, .ins k, .lst [.int (f1 : Int), .int (f2 : Int), .int (f3 : Int), .int (f4 : Int)], .lob N, .ins j, w'], I.set k (updA f4 (updA f3 (updA f2 (updA f1 a b) b) b) b), [(N, as')] :: L, N + 1⟩) := by
  have lk := (List.getElem?_eq_some_iff.mp hk).1
  have gk : ∀ z : Ins, (I.set k z)[k]? = some z := fun z => List.getElem?_set_self lk
  have gj : ∀ z : Ins, (I.set k z)[j]? = some b := fun z => by rw [List.getElem?_set_ne hkj]; exact hj
  have ss : ∀ z z' : Ins, (I.set k z).set k z' = I.set k z' := fun z z' => List.set_set ..
  have u1 := updA_enc (f := f1) ha hb
  have u2 := updA_enc (f := f2) u1 hb
  have u3 := updA_enc (f := f3) u2 hb
  obtain ⟨o, ho⟩ : ∃ o, o = AV.lst [.int (f1 : Int), .int (f2 : Int), .int (f3 : Int), .int (f4 : Int)] := ⟨_, rfl⟩
  obtain ⟨as1, n1, m1, e1⟩ := ans_step (E := E) (o := o) (L := L) (N := N) g1 hk hj hkj ha h1 (by omega)
  obtain ⟨as2, n2, m2, e2⟩ := ans_step (E := E) (o := o) (L := L) (N := N) g2 (gk _) (gj _) hkj u1 n1 (by omega)
  obtain ⟨as3, n3, m3, e3⟩ := ans_step (E := E) (o := o) (L := L) (N := N) g3 (gk _) (gj _) hkj u2 n2 (by omega)
  obtain ⟨as4, n4, m4, e4⟩ := ans_step (E := E) (o := o) (L := L) (N := N) g4 (gk _) (gj _) hkj u3 n3 (by omega)
  rw [ss] at e2 e3 e4
  refine ⟨as4, .int (f4 : Int), n4, by omega, ?_⟩
  rw [← ho]
  have hX : ∀ st : AS, itemsM o st = some ([.int (f1 : Int), .int (f2 : Int), .int (f3 : Int), .int (f4 : Int)], st) := fun st => by rw [ho]; rfl
  refine forA_is (X := o) (st1 := ⟨[E, .ins k, o, .lob N, .ins j, w], I, [(N, as)] :: L, N + 1⟩) (by subst ho; simp [var_eq, u_lst]) (hX _) ?_
  rw [List.length_cons, List.length_cons, List.length_cons, List.length_cons, List.length_nil]
  rw [forA_next (hX _) rfl (st1 := ⟨[E, .ins k, o, .lob N, .ins j, .int (f1 : Int)], _, _, _⟩) rfl e1]
  rw [forA_next (hX _) rfl (st1 := ⟨[E, .ins k, o, .lob N, .ins j, .int (f2 : Int)], _, _, _⟩) rfl e2]
  rw [forA_next (hX _) rfl (st1 := ⟨[E, .ins k, o, .lob N, .ins j, .int (f3 : Int)], _, _, _⟩) rfl e3]
  rw [forA_next (hX _) rfl (st1 := ⟨[E, .ins k, o, .lob N, .ins j, .int (f4 : Int)], _, _, _⟩) rfl e4]
  exact forA_end (hX _) (by simp)
noncomputable def updC (c e : Ce) : Ce := { c with sys := e.sys, enc := if isN c.enc = true then e.enc else c.enc, byt := e.byt, chr := e.chr }
theorem upd_fwd (c e : Ce) : updA 3 (updA 2 (updA 1 (updA 0 c.ins e.ins) e.ins) e.ins) e.ins = (updC c e).ins := by
  unfold updA updC Ce.ins
  by_cases q : isN c.enc = true <;> simp [q]
theorem upd_bwd (c e : Ce) : updA 0 (updA 1 (updA 2 (updA 3 c.ins e.ins) e.ins) e.ins) e.ins = (updC c e).ins := by
  unfold updA updC Ce.ins
  by_cases q : isN c.enc = true <;> simp [q]
noncomputable def ordL (b : Bool) : List AV := if b then [.int ((0 : Nat) : Int), .int ((1 : Nat) : Int), .int ((2 : Nat) : Int), .int ((3 : Nat) : Int)] else [.int ((3 : Nat) : Int), .int ((2 : Nat) : Int), .int ((1 : Nat) : Int), .int ((0 : Nat) : Int)]
theorem ans_order {b : Bool} {c e : Ce} {N : Nat} {E w : AV} {I : List Ins} {L : LH} (hc : c.ok) (he : e.ok) (hk : I[c.i]? = some c.ins) (hj : I[e.i]? = some e.ins) (hkj : c.i ≠ e.i) :
    ∃ as' w', nones as' ∧ as'.length ≤ 4 ∧ forM' (bd (var 2) anyIt) sizeA nxA (setV 5) B_law_answered_1 ⟨[E, .ins c.i, .lst (ordL b), .lob N, .ins e.i, w], I, [(N, [])] :: L, N + 1⟩ = some (.next, ⟨[E, .ins c.i, .lst (ordL b), .lob N, .ins e.i, w'], I.set c.i (updC c e).ins, [(N, as')] :: L, N + 1⟩) := by
  cases b with
  | true =>
    obtain ⟨as', w', h1, h2, h3⟩ := ans_four (f1 := 0) (f2 := 1) (f3 := 2) (f4 := 3) (by decide) (by decide) (by decide) (by decide) (N := N) (E := E) (w := w) (L := L) (as := []) hk hj hkj hc.enc he.enc (fun x hx => by cases hx) (by simp)
    rw [upd_fwd] at h3
    exact ⟨as', w', h1, by simpa using h2, h3⟩
  | false =>
    obtain ⟨as', w', h1, h2, h3⟩ := ans_four (f1 := 3) (f2 := 2) (f3 := 1) (f4 := 0) (by decide) (by decide) (by decide) (by decide) (N := N) (E := E) (w := w) (L := L) (as := []) hk hj hkj hc.enc he.enc (fun x hx => by cases hx) (by simp)
    rw [upd_bwd] at h3
    exact ⟨as', w', h1, by simpa using h2, h3⟩
--@@
theorem forA_ret {tgt : AV → Cm Unit} {body : Cm AF} {X x v : AV} {xs : List AV} {i k : Nat} {st s' st1 st2 : AS} (h0 : itemsM X st = some (xs, s')) (hx : xs[i]? = some x) (h1 : tgt x st = some ((), st1)) (h2 : body st1 = some (.ret v, st2)) : forG nxA tgt body (k + 1) (X, i) st = some (.ret v, st2) := by
  rw [forG_next (i' := (X, i + 1)) (x := x) (by simp only [nxA, h0, hx]), bd_is h1, then_ret h2]
theorem pub_get {c : Ce} {I : List Ins} (h : I[c.i]? = some c.ins) (loc : List AV) (L : LH) (N : Nat) : callM (getF .pub) [.ins c.i] ⟨loc, I, L, N⟩ = some (pubA c.p, ⟨loc, I, L, N⟩) := by
  simp [callM, getF, attrM, h, Ce.ins, Ins.get]
theorem ans_entry {b : Bool} {c e : Ce} {N : Nat} {E w : AV} {I : List Ins} {L : LH} (hc : c.ok) (he : e.ok) (hk : I[c.i]? = some c.ins) (hj : I[e.i]? = some e.ins) (hkj : c.i ≠ e.i) :
    if e.p = c.p then ∃ as' w', nones as' ∧ as'.length ≤ 4 ∧ B_law_answered_2 ⟨[E, .ins c.i, .lst (ordL b), .lob N, .ins e.i, w], I, [(N, [])] :: L, N + 1⟩ = some (.ret (.lob N), ⟨[E, .ins c.i, .lst (ordL b), .lob N, .ins e.i, w'], I.set c.i (updC c e).ins, [(N, as')] :: L, N + 1⟩)
    else B_law_answered_2 ⟨[E, .ins c.i, .lst (ordL b), .lob N, .ins e.i, w], I, [(N, [])] :: L, N + 1⟩ = some (.next, ⟨[E, .ins c.i, .lst (ordL b), .lob N, .ins e.i, w], I, [(N, [])] :: L, N + 1⟩) := by
  have t : cmp2 (methM (var 4) (pu []) (getF .pub)) (methM (var 1) (pu []) (getF .pub)) eqM ⟨[E, .ins c.i, .lst (ordL b), .lob N, .ins e.i, w], I, [(N, [])] :: L, N + 1⟩ = some (decide (e.p = c.p), ⟨[E, .ins c.i, .lst (ordL b), .lob N, .ins e.i, w], I, [(N, [])] :: L, N + 1⟩) := by
    have p1 := pub_get hk
    have p2 := pub_get hj
    generalize getF .pub = G at p1 p2 ⊢
    simp [thenM, asgM, retM, dropM, iteM, bd, consM, methM, lmethM, chkL, var_eq, pu, no, lstM, tupM, newM, newLob, blank, setV, u_none, u_bool, u_int, u_str, u_bytes, u_ins, u_lob, u_lst, u_lsb, u_tup, bin2, cmp2, boolV, andM, addM, modM, divM, gtM, addLM, mulLM, itemsM, items2M, lenM, getItemM, idxM, appendM, extendM, getL1, putL1, lookL, putSeg, pushL1, unpackM, consA, nilA, swapM, isM, isNotM, isF, frzV, frz0, p1, p2, eqM, pub_eq he.p hc.p]
  by_cases q : e.p = c.p
  · rw [if_pos q]
    obtain ⟨as', w', h1, h2, h3⟩ := ans_order (b := b) (N := N) (E := E) (w := w) (L := L) hc he hk hj hkj
    refine ⟨as', w', h1, h2, ?_⟩
    rw [decide_eq_true q] at t
    have e1 := ite_t (f := thenM (forM' (bd (var 2) anyIt) sizeA nxA (setV 5) (B_law_answered_1)) (thenM (retM (var 3)) (pu .next))) (g := pu .next) t
    rw [then_next h3] at e1
    rw [B_law_answered_2]
    exact then_ret (e1.trans rfl)
  · rw [if_neg q]
    rw [decide_eq_false q] at t
    rw [B_law_answered_2, then_next (ite_f t)]
    rfl
theorem ans_loop {b : Bool} {c : Ce} {N : Nat} {es : List Ce} {I : List Ins} {L : LH} (hc : c.ok) (hk : I[c.i]? = some c.ins) (he : ∀ e ∈ es, e.ok ∧ I[e.i]? = some e.ins ∧ c.i ≠ e.i) : ∀ (d i : Nat) (v w : AV), i + d = es.length →
    match (es.drop i).find? (fun e => decide (e.p = c.p)) with
    | some e => ∃ as' v' w', nones as' ∧ as'.length ≤ 4 ∧ forG nxA (setV 4) B_law_answered_2 (d + 1) (.lst (entL es), i) ⟨[.lst (entL es), .ins c.i, .lst (ordL b), .lob N, v, w], I, [(N, [])] :: L, N + 1⟩ = some (.ret (.lob N), ⟨[.lst (entL es), .ins c.i, .lst (ordL b), .lob N, v', w'], I.set c.i (updC c e).ins, [(N, as')] :: L, N + 1⟩)
    | .none => ∃ v', forG nxA (setV 4) B_law_answered_2 (d + 1) (.lst (entL es), i) ⟨[.lst (entL es), .ins c.i, .lst (ordL b), .lob N, v, w], I, [(N, [])] :: L, N + 1⟩ = some (.next, ⟨[.lst (entL es), .ins c.i, .lst (ordL b), .lob N, v', w], I, [(N, [])] :: L, N + 1⟩)
  | 0, i, v, w, h => by
    have hX : ∀ st : AS, itemsM (.lst (entL es)) st = some (entL es, st) := fun _ => rfl
    rw [List.drop_eq_nil_of_le (by omega)]
    exact ⟨v, forA_end (hX _) (by simp [entL]; omega)⟩
  | d + 1, i, v, w, h => by
    have hX : ∀ st : AS, itemsM (.lst (entL es)) st = some (entL es, st) := fun _ => rfl
    have hi : i < es.length := by omega
    obtain ⟨o1, o2, o3⟩ := he _ (List.getElem_mem hi)
    have hx : (entL es)[i]? = some (.ins es[i].i) := by simp [entL, hi]
    have s := ans_entry (b := b) (N := N) (E := .lst (entL es)) (w := w) (L := L) hc o1 hk o2 o3
    have ih := ans_loop (b := b) (N := N) (L := L) hc hk he d (i + 1) (.ins es[i].i) w (by omega)
    rw [List.drop_eq_getElem_cons hi, List.find?_cons]
    by_cases q : es[i].p = c.p
    · rw [if_pos q] at s
      simp only [q, decide_true]
      obtain ⟨as', w', h1, h2, h3⟩ := s
      refine ⟨as', .ins es[i].i, w', h1, h2, ?_⟩
      exact forA_ret (hX _) hx (st1 := ⟨[.lst (entL es), .ins c.i, .lst (ordL b), .lob N, .ins es[i].i, w], I, [(N, [])] :: L, N + 1⟩) rfl h3
    · rw [if_neg q] at s
      simp only [q, decide_false]
      rw [forA_next (hX _) hx (st1 := ⟨[.lst (entL es), .ins c.i, .lst (ordL b), .lob N, .ins es[i].i, w], I, [(N, [])] :: L, N + 1⟩) rfl s]
      exact ih
noncomputable def found (es : List Ce) (c : Ce) : Ce := match es.find? (fun e => decide (e.p = c.p)) with
  | some e => updC c e
  | .none => c
theorem set_self {α : Type} {I : List α} {k : Nat} {a : α} (hk : I[k]? = some a) : I.set k a = I := by
  apply List.ext_getElem?
  intro m
  by_cases q : k = m
  · subst q
    rw [List.getElem?_set_self (List.getElem?_eq_some_iff.mp hk).1, hk]
  · rw [List.getElem?_set_ne q]
theorem ans_is {b : Bool} {c : Ce} {N : Nat} {es : List Ce} {I : List Ins} {L : LH} (hc : c.ok) (hk : I[c.i]? = some c.ins) (he : ∀ e ∈ es, e.ok ∧ I[e.i]? = some e.ins ∧ c.i ≠ e.i) (loc : List AV) :
    ∃ as', nones as' ∧ as'.length ≤ 4 ∧ callM F_law_answered [.lst (entL es), .ins c.i, .lst (ordL b)] ⟨loc, I, L, N⟩ = some (.lst as', ⟨loc, I.set c.i (found es c).ins, L, N + 1⟩) := by
  have l := ans_loop (b := b) (N := N) (L := L) hc hk he es.length 0 .unb .unb (by omega)
  rw [List.drop_zero] at l
  have e0 : asgM (bd (pu []) newLob) (setV 3) ⟨[.lst (entL es), .ins c.i, .lst (ordL b), .unb, .unb, .unb], I, [] :: L, N⟩ = some (.next, ⟨[.lst (entL es), .ins c.i, .lst (ordL b), .lob N, .unb, .unb], I, [(N, [])] :: L, N + 1⟩) := by simp [thenM, asgM, retM, dropM, iteM, bd, consM, methM, lmethM, chkL, var_eq, pu, no, lstM, tupM, newM, newLob, blank, setV, u_none, u_bool, u_int, u_str, u_bytes, u_ins, u_lob, u_lst, u_lsb, u_tup, bin2, cmp2, boolV, andM, addM, modM, divM, gtM, addLM, mulLM, itemsM, items2M, lenM, getItemM, idxM, appendM, extendM, getL1, putL1, lookL, putSeg, pushL1, unpackM, consA, nilA, swapM, isM, isNotM, isF, frzV, frz0]
  have hX : ∀ st : AS, itemsM (.lst (entL es)) st = some (entL es, st) := fun _ => rfl
  have lm : (entL es).length = es.length := by simp [entL]
  have e1 : forM' (bd (var 0) anyIt) sizeA nxA (setV 4) B_law_answered_2 ⟨[.lst (entL es), .ins c.i, .lst (ordL b), .lob N, .unb, .unb], I, [(N, [])] :: L, N + 1⟩ = forG nxA (setV 4) B_law_answered_2 (es.length + 1) (.lst (entL es), 0) ⟨[.lst (entL es), .ins c.i, .lst (ordL b), .lob N, .unb, .unb], I, [(N, [])] :: L, N + 1⟩ :=
    forA_is (X := .lst (entL es)) (st1 := ⟨[.lst (entL es), .ins c.i, .lst (ordL b), .lob N, .unb, .unb], I, [(N, [])] :: L, N + 1⟩) rfl (hX _) (by rw [lm])
  unfold found
  cases z : es.find? (fun e => decide (e.p = c.p)) with
  | some e =>
    rw [z] at l
    obtain ⟨as', v', w', h1, h2, h3⟩ := l
    refine ⟨as', h1, h2, ?_⟩
    have := call_ret (k := 3) (m := 3) (g := B_law_answered) (xs := [.lst (entL es), .ins c.i, .lst (ordL b)]) (loc := loc) (ins := I) (L := L) (N := N) (v := .lob N) (seg := [(N, as')]) rfl (by
      show B_law_answered ⟨[.lst (entL es), .ins c.i, .lst (ordL b), .unb, .unb, .unb], I, [] :: L, N⟩ = _
      rw [B_law_answered, then_next e0, then_ret (e1.trans h3)])
    rw [F_law_answered, this]
    simp [frzV, frz0, lookL]
  | none =>
    rw [z] at l
    obtain ⟨v', h3⟩ := l
    refine ⟨[], fun x hx => (by cases hx), by simp, ?_⟩
    have := call_ret (k := 3) (m := 3) (g := B_law_answered) (xs := [.lst (entL es), .ins c.i, .lst (ordL b)]) (loc := loc) (ins := I) (L := L) (N := N) (v := .lob N) (seg := [(N, [])]) rfl (by
      show B_law_answered ⟨[.lst (entL es), .ins c.i, .lst (ordL b), .unb, .unb, .unb], I, [] :: L, N⟩ = _
      rw [B_law_answered, then_next e0, then_next (e1.trans h3)]; rfl)
    rw [F_law_answered, this]
    simp only [set_self hk]
    simp [frzV, frz0, lookL]
--@@
theorem tab_app (st : AS) : ∀ (xs ys : List AV) (t : Int → Option AV), tab st (xs ++ ys) t = tab st ys (tab st xs t)
  | [], _, _ => rfl
  | _ :: xs, ys, t => tab_app st xs ys _
theorem key_due {c : Ce} {st : AS} (h : getL1 c.d st.lst = some c.due) : keyOf st (.lob c.d) = some (c.p : Int) := by
  simp [keyOf, getItemM, itemsM, h, Ce.due, idxM]
theorem tab_find {st : AS} {k : Nat} : ∀ {es : List Ce} (t : Int → Option AV), (∀ c ∈ es, getL1 c.d st.lst = some c.due) →
    tab st (rcL es).reverse t (k : Int) = match es.find? (fun e => decide (e.p = k)) with | some e => some (.lob e.d) | .none => t k
  | [], t, _ => rfl
  | c :: es, t, h => by
    have ih := tab_find (st := st) (k := k) (es := es) t fun e he => h e (List.mem_cons_of_mem _ he)
    have e1 : (rcL (c :: es)).reverse = (rcL es).reverse ++ [.lob c.d] := by simp [rcL]
    rw [e1, tab_app]
    simp only [tab, key_due (h c List.mem_cons_self), List.find?_cons]
    by_cases q : c.p = k
    · simp [q]
    · have q' : ¬ (c.p : Int) = k := by omega
      simp only [Option.some.injEq, q', if_false, q, decide_false]
      exact ih
theorem fit_is {es : List Ce} {loc : List AV} {I : List Ins} {L : LH} {N : Nat} (h4 : loc[4]? = some (.lst (rcL es))) (hl : es.length ≤ 5) : bd (sliceM (var 4) (pu .none) (pu .none) (partM (negM (pu (.int 1))))) lstIt ⟨loc, I, L, N⟩ = some ((rcL es).reverse, ⟨loc, I, L, N⟩) := by
  have lm : (rcL es).length = es.length := by simp [rcL]
  have v4 : var 4 ⟨loc, I, L, N⟩ = some (.lst (rcL es), ⟨loc, I, L, N⟩) := var_get h4 (fun q => by cases q)
  simp only [bd, sliceM, v4, pu, partM, negM, itemsM]
  rw [if_pos ⟨by omega, by decide⟩]
  simp [lstIt, pu, pick_rev]
theorem keys_all {es : List Ce} {st : AS} (h : ∀ c ∈ es, getL1 c.d st.lst = some c.due) : (rcL es).reverse.all (fun x => (keyOf st x).isSome) = true := by
  rw [List.all_eq_true]
  intro x hx
  rw [List.mem_reverse] at hx
  obtain ⟨c, hc, rfl⟩ := List.mem_map.mp hx
  rw [key_due (h c hc)]; rfl
section
variable {s x a6 more new giv tbl row told ask : AV} {c : Ce} {es : List Ce} {I : List Ins} {L : LH} {N : Nat}
theorem due_new {e : Ce} (hc : c.ok) (h1 : getL1 c.d L = some c.due) (h2 : getL1 e.d L = some e.due) : B_law_8 ⟨[s, .lst pubs, x, .lst (entL es), .lst (rcL es), .lob 0, a6, .lob c.d, .int (c.p : Int), more, new, giv, tbl, .lob e.d, told, ask], I, L, N⟩ = some (.next, ⟨[s, .lst pubs, x, .lst (entL es), .lst (rcL es), .lob 0, a6, .lob N, .int (c.p : Int), more, new, giv, tbl, .lob e.d, told, ask], I, pushL1 N (updC c e).due L, N + 1⟩) := by
  have hi := pl_isN hc.enc
  unfold Ce.due at h1 h2
  by_cases q : isN c.enc = true
  · rw [q] at hi
    simp [B_law_8, S12_1, thenM, asgM, retM, dropM, iteM, bd, consM, methM, lmethM, chkL, var_eq, pu, no, lstM, tupM, newM, newLob, blank, setV, u_none, u_bool, u_int, u_str, u_bytes, u_ins, u_lob, u_lst, u_lsb, u_tup, bin2, cmp2, boolV, andM, addM, modM, divM, gtM, addLM, mulLM, itemsM, items2M, lenM, getItemM, idxM, appendM, extendM, getL1, putL1, lookL, putSeg, pushL1, unpackM, consA, nilA, swapM, isM, isNotM, isF, frzV, frz0, -isF, -pushL1, h1, h2, hi, Ce.due, updC, q]
  · simp only [Bool.not_eq_true] at q
    rw [q] at hi
    simp [B_law_8, S12_1, thenM, asgM, retM, dropM, iteM, bd, consM, methM, lmethM, chkL, var_eq, pu, no, lstM, tupM, newM, newLob, blank, setV, u_none, u_bool, u_int, u_str, u_bytes, u_ins, u_lob, u_lst, u_lsb, u_tup, bin2, cmp2, boolV, andM, addM, modM, divM, gtM, addLM, mulLM, itemsM, items2M, lenM, getItemM, idxM, appendM, extendM, getL1, putL1, lookL, putSeg, pushL1, unpackM, consA, nilA, swapM, isM, isNotM, isF, frzV, frz0, -isF, -pushL1, h1, h2, hi, Ce.due, updC, q]
theorem table_is (hc : c.ok) (h1 : getL1 c.d L = some c.due) (h2 : ∀ e ∈ es, getL1 e.d L = some e.due) (hl : es.length ≤ 5) (hcN : c.d < N) : ∃ d' L' N' r, (∀ rest : Cm AF, tableM 12 13 8 (bd (sliceM (var 4) (pu .none) (pu .none) (partM (negM (pu (.int 1))))) lstIt) B_law_8 rest ⟨[s, .lst pubs, x, .lst (entL es), .lst (rcL es), .lob 0, a6, .lob c.d, .int (c.p : Int), more, new, giv, tbl, row, told, ask], I, L, N⟩ = rest ⟨[s, .lst pubs, x, .lst (entL es), .lst (rcL es), .lob 0, a6, .lob d', .int (c.p : Int), more, new, giv, .unb, r, told, ask], I, L', N'⟩)
    ∧ getL1 d' L' = some (found es c).due ∧ (∀ j, j < N → getL1 j L' = getL1 j L) ∧ N ≤ N' ∧ (d' = c.d ∨ N ≤ d') ∧ d' < N' := by
  have t := tab_find (st := ⟨[s, .lst pubs, x, .lst (entL es), .lst (rcL es), .lob 0, a6, .lob c.d, .int (c.p : Int), more, new, giv, tbl, row, told, ask], I, L, N⟩) (k := c.p) (fun _ => .none) h2
  have f := fit_is (es := es) (loc := [s, .lst pubs, x, .lst (entL es), .lst (rcL es), .lob 0, a6, .lob c.d, .int (c.p : Int), more, new, giv, tbl, row, told, ask]) (I := I) (L := L) (N := N) rfl hl
  have k := keys_all (st := ⟨[s, .lst pubs, x, .lst (entL es), .lst (rcL es), .lob 0, a6, .lob c.d, .int (c.p : Int), more, new, giv, tbl, row, told, ask], I, L, N⟩) h2
  have lm : (rcL es).reverse.length = es.length := by simp [rcL]
  have v8 : var 8 ⟨[s, .lst pubs, x, .lst (entL es), .lst (rcL es), .lob 0, a6, .lob c.d, .int (c.p : Int), more, new, giv, tbl, row, told, ask], I, L, N⟩ = some (.int (c.p : Int), ⟨[s, .lst pubs, x, .lst (entL es), .lst (rcL es), .lob 0, a6, .lob c.d, .int (c.p : Int), more, new, giv, tbl, row, told, ask], I, L, N⟩) := rfl
  have key : ∀ rest : Cm AF, tableM 12 13 8 (bd (sliceM (var 4) (pu .none) (pu .none) (partM (negM (pu (.int 1))))) lstIt) B_law_8 rest ⟨[s, .lst pubs, x, .lst (entL es), .lst (rcL es), .lob 0, a6, .lob c.d, .int (c.p : Int), more, new, giv, tbl, row, told, ask], I, L, N⟩ = match es.find? (fun e => decide (e.p = c.p)) with
      | some e => thenM B_law_8 rest ⟨[s, .lst pubs, x, .lst (entL es), .lst (rcL es), .lob 0, a6, .lob c.d, .int (c.p : Int), more, new, giv, .unb, .lob e.d, told, ask], I, L, N⟩
      | .none => rest ⟨[s, .lst pubs, x, .lst (entL es), .lst (rcL es), .lob 0, a6, .lob c.d, .int (c.p : Int), more, new, giv, .unb, .unb, told, ask], I, L, N⟩ := fun rest => by
    unfold tableM
    simp only [f, v8, t]
    rw [if_pos ⟨by omega, k, by simp, by simp⟩]
    cases es.find? (fun e => decide (e.p = c.p)) <;> rfl
  unfold found
  cases z : es.find? (fun e => decide (e.p = c.p)) with
  | some e =>
    rw [z] at key
    have he := List.mem_of_find?_eq_some z
    refine ⟨N, pushL1 N (updC c e).due L, N + 1, .lob e.d, fun rest => ?_, get_push_self L, fun j hj => get_push_ne (by omega) L, by omega, .inr (Nat.le_refl _), by omega⟩
    exact (key rest).trans (then_next (due_new hc h1 (h2 e he)))
  | none =>
    rw [z] at key
    exact ⟨c.d, L, N, .unb, key, h1, fun _ _ => rfl, Nat.le_refl _, .inl rfl, hcN⟩
end
--@@
theorem pick_neg4 {α : Type} (xs : List α) : pickA xs (some (-4)) .none .none = xs.drop (xs.length - 4) := by
  rw [← pick_drop xs (xs.length - 4)]
  unfold pickA
  have e : sliceBounds (some (-4)) .none .none xs.length = sliceBounds (some ((xs.length - 4 : Nat) : Int)) .none .none xs.length := by
    unfold sliceBounds
    simp only [Option.getD_none, show (-4 : Int) < 0 from by decide, if_true, show (1 : Int) > 0 from by decide, show ¬ (((xs.length - 4 : Nat) : Int) < 0) from by omega, if_false]
    have : max 0 (min (-4 + (xs.length : Int)) (xs.length : Int)) = max 0 (min ((xs.length - 4 : Nat) : Int) (xs.length : Int)) := by omega
    first | rw [this] | simp [this]
  rw [e]
theorem pick_tails (es : List Ce) : pickA (entL es) (some (-4)) .none .none = entL (es.drop (es.length - 4)) ∧ pickA (rcL es) (some (-4)) .none .none = rcL (es.drop (es.length - 4)) := by
  rw [pick_neg4, pick_neg4]
  simp [entL, rcL, List.map_drop]
structure Good (es : List Ce) (I : List Ins) (L : LH) (N k : Nat) : Prop where
  cat : Cat es I L N
  len : es.length ≤ 5
  ans : Ans L k
  pos : 1 ≤ N
theorem seven : nones [.none, .none, .none, .none, .none, .none, .none] := by intro x hx; simpa using hx
section
variable {s a6 due pp mm new giv tbl row told ask : AV} {x : Int} {es : List Ce} {I : List Ins} {L : LH} {N k p : Nat} {m : Int}
theorem s41 : S4_1 ⟨[s, .lst pubs, .int x, .lst (entL es), .lst (rcL es), .lob 0, a6, due, pp, mm, new, giv, tbl, row, told, ask], I, L, N⟩ = some (.next, ⟨[s, .lst pubs, .int x, .lst (entL es), .lst (rcL es), .lob 0, a6, due, .int (x / 4 % 5), .int (x / 20), new, giv, tbl, row, told, ask], I, L, N⟩) := by
  simp [S4_1, thenM, asgM, retM, dropM, iteM, bd, consM, methM, lmethM, chkL, var_eq, pu, no, lstM, tupM, newM, newLob, blank, setV, u_none, u_bool, u_int, u_str, u_bytes, u_ins, u_lob, u_lst, u_lsb, u_tup, bin2, cmp2, boolV, andM, addM, modM, divM, gtM, addLM, mulLM, itemsM, items2M, lenM, getItemM, idxM, appendM, extendM, getL1, putL1, lookL, putSeg, pushL1, unpackM, consA, nilA, swapM, isM, isNotM, isF, frzV, frz0]
theorem idx_app {ys zs : List AV} : (ys ++ zs).length = ys.length + zs.length := by simp
/-- a new entry -/
theorem s51 (hp : p < 5) : ∃ sys enc : AV, sys.pl = true ∧ enc.pl = true ∧ S5_1 ⟨[s, .lst pubs, .int x, .lst (entL es), .lst (rcL es), .lob 0, a6, due, .int (p : Int), .int m, new, giv, tbl, row, told, ask], I, L, N⟩ = some (.next, ⟨[s, .lst pubs, .int x, .lst (entL es), .lst (rcL es), .lob 0, a6, .lob N, .int (p : Int), .int m, new, giv, tbl, row, told, ask], I, pushL1 N [sys, .int (p : Int), enc] L, N + 1⟩) := by
  obtain ⟨sys, h1, e1⟩ := pick_pl 4 [.none, .str "", .str "s", .str "S"] rfl (by decide) (by decide) (by intro x hx; simp at hx; rcases hx with rfl | rfl | rfl | rfl <;> rfl) m
  obtain ⟨enc, h2, e2⟩ := pick_pl 3 [.none, .str "", .str "E"] rfl (by decide) (by decide) (by intro x hx; simp at hx; rcases hx with rfl | rfl | rfl <;> rfl) m
  refine ⟨sys, enc, h1, h2, ?_⟩
  norm_cast at e1 e2
  simp [S5_1, thenM, asgM, retM, dropM, iteM, bd, consM, methM, lmethM, chkL, var_eq, pu, no, lstM, tupM, newM, newLob, blank, setV, u_none, u_bool, u_int, u_str, u_bytes, u_ins, u_lob, u_lst, u_lsb, u_tup, bin2, cmp2, boolV, andM, addM, modM, divM, gtM, addLM, mulLM, itemsM, items2M, lenM, appendM, extendM, unpackM, consA, nilA, swapM, isM, isNotM, isF, frzV, frz0, e1, e2]
theorem s52 {L0 : LH} (xs : List AV) (hx : getL1 N L = some xs) (h3 : xs.length = 3) : ∃ byt chr : AV, byt.pl = true ∧ chr.pl = true ∧ S5_2 ⟨[s, .lst pubs, .int x, .lst (entL es), .lst (rcL es), .lob 0, a6, .lob N, .int (p : Int), .int m, new, giv, tbl, row, told, ask], I, L, N + 1⟩ = some (.next, ⟨[s, .lst pubs, .int x, .lst (entL es), .lst (rcL es), .lob 0, a6, .lob N, .int (p : Int), .int m, new, giv, tbl, row, told, ask], I, putL1 N (xs ++ [byt, chr]) L, N + 1⟩) := by
  obtain ⟨byt, h1, e1⟩ := pick_pl 3 [.none, .bytes (List.toArray []), .bytes (List.toArray [49])] rfl (by decide) (by decide) (by intro x hx; simp at hx; rcases hx with rfl | rfl | rfl <;> rfl) (m / 4)
  obtain ⟨chr, h2, e2⟩ := pick_pl 3 [.none, .str "", .str "c"] rfl (by decide) (by decide) (by intro x hx; simp at hx; rcases hx with rfl | rfl | rfl <;> rfl) (m / 2)
  refine ⟨byt, chr, h1, h2, ?_⟩
  norm_cast at e1 e2
  simp [S5_2, thenM, asgM, retM, dropM, iteM, bd, consM, methM, lmethM, chkL, var_eq, pu, no, lstM, tupM, newM, newLob, blank, setV, u_none, u_bool, u_int, u_str, u_bytes, u_ins, u_lob, u_lst, u_lsb, u_tup, bin2, cmp2, boolV, andM, addM, modM, divM, gtM, addLM, mulLM, itemsM, items2M, lenM, appendM, extendM, unpackM, consA, nilA, swapM, isM, isNotM, isF, frzV, frz0, e1, e2, hx, h3, chkL]
end
--@@
noncomputable def seven7 : List AV := [.none, .none, .none, .none, .none, .none, .none]
section
variable {s a6 due pp mm new giv tbl row told ask : AV} {x : Int} {es : List Ce} {I : List Ins} {L : LH} {N M k p : Nat} {m : Int}
theorem s53 {c : Ce} (hc : c.ok) (hd : getL1 c.d L = some c.due) (hN : c.d < N) : S5_3 ⟨[s, .lst pubs, .int x, .lst (entL es), .lst (rcL es), .lob 0, a6, .lob c.d, .int (c.p : Int), .int m, new, giv, tbl, row, told, ask], I, L, N⟩ = some (.next, ⟨[s, .lst pubs, .int x, .lst (entL es), .lst (rcL es), .lob 0, a6, .lob c.d, .int (c.p : Int), .int m, .ins I.length, .lst seven7, tbl, row, told, ask], I ++ [c.ins], L, N + 1⟩) := by
  have e := fun loc => entry_is hd hN (pl_u (pub_pl hc.p)) hc.sys loc I
  have g := pub_at hc.p
  unfold S5_3
  generalize callM F_law_entry = C at e ⊢
  simp [thenM, asgM, retM, dropM, iteM, bd, consM, methM, lmethM, chkL, var_eq, pu, no, lstM, tupM, newM, newLob, blank, setV, u_none, u_bool, u_int, u_str, u_bytes, u_ins, u_lob, u_lst, u_lsb, u_tup, bin2, cmp2, boolV, andM, addM, modM, divM, gtM, addLM, mulLM, itemsM, items2M, lenM, appendM, extendM, unpackM, consA, nilA, swapM, isM, isNotM, isF, frzV, frz0, e, g, seven7, Ce.ins]
theorem s54 {as : List AV} (h : getL1 0 L = some as) (hl : as.length ≤ 1000) : S5_4 ⟨[s, .lst pubs, .int x, .lst (entL es), .lst (rcL es), .lob 0, a6, due, pp, mm, new, .lst seven7, tbl, row, told, ask], I, L, N⟩ = some (.next, ⟨[s, .lst pubs, .int x, .lst (entL es), .lst (rcL es), .lob 0, a6, due, pp, mm, new, .lst seven7, tbl, row, told, ask], I, putL1 0 (as ++ seven7) L, N⟩) := by
  have : as.length + seven7.length ≤ 100000 := by simp [seven7]; omega
  simp [S5_4, thenM, asgM, retM, dropM, iteM, bd, consM, methM, lmethM, chkL, var_eq, pu, no, lstM, tupM, newM, newLob, blank, setV, u_none, u_bool, u_int, u_str, u_bytes, u_ins, u_lob, u_lst, u_lsb, u_tup, bin2, cmp2, boolV, andM, addM, modM, divM, gtM, addLM, mulLM, itemsM, items2M, lenM, appendM, extendM, unpackM, consA, nilA, swapM, isM, isNotM, isF, frzV, frz0, h, chkL, this]
theorem s55 {c : Ce} (hl : es.length ≤ 5) : S5_5 ⟨[s, .lst pubs, .int x, .lst (entL es), .lst (rcL es), .lob 0, a6, .lob c.d, pp, mm, .ins c.i, giv, tbl, row, told, ask], I, L, N⟩ = some (.next, ⟨[s, .lst pubs, .int x, .lst (entL (es.drop (es.length - 4) ++ [c])), .lst (rcL (es.drop (es.length - 4) ++ [c])), .lob 0, a6, .lob c.d, pp, mm, .ins c.i, giv, tbl, row, told, ask], I, L, N⟩) := by
  obtain ⟨h1, h2⟩ := pick_tails es
  have e1 : entL (es.drop (es.length - 4) ++ [c]) = entL (es.drop (es.length - 4)) ++ [.ins c.i] := by simp [entL]
  have e2 : rcL (es.drop (es.length - 4) ++ [c]) = rcL (es.drop (es.length - 4)) ++ [.lob c.d] := by simp [rcL]
  have l1 : (entL es).length ≤ 100000 := by simp [entL]; omega
  have l2 : (rcL es).length ≤ 100000 := by simp [rcL]; omega
  have l3 : (entL (es.drop (es.length - 4))).length + 1 ≤ 100000 := by simp [entL]; omega
  have l4 : (rcL (es.drop (es.length - 4))).length + 1 ≤ 100000 := by simp [rcL]; omega
  rw [e1, e2]
  simp [S5_5, thenM, asgM, retM, dropM, iteM, bd, consM, methM, lmethM, chkL, var_eq, pu, no, lstM, tupM, newM, newLob, blank, setV, u_none, u_bool, u_int, u_str, u_bytes, u_ins, u_lob, u_lst, u_lsb, u_tup, bin2, cmp2, boolV, andM, addM, modM, divM, gtM, addLM, mulLM, itemsM, items2M, lenM, appendM, extendM, unpackM, consA, nilA, swapM, isM, isNotM, isF, frzV, frz0, sliceM, partM, negM, h1, h2, l1, l2, l3, l4]
theorem step3 (G : Good es I L N k) (hk : k ≤ 900) (hp : p < 5) : ∃ es' due' new' giv' I' L' N', B_law_3 ⟨[s, .lst pubs, .int x, .lst (entL es), .lst (rcL es), .lob 0, a6, due, .int (p : Int), .int m, new, giv, tbl, row, told, ask], I, L, N⟩ = some (.next, ⟨[s, .lst pubs, .int x, .lst (entL es'), .lst (rcL es'), .lob 0, a6, due', .int (p : Int), .int m, new', giv', tbl, row, told, ask], I', L', N'⟩) ∧ es' ≠ [] ∧ Good es' I' L' N' (k + 7) := by
  obtain ⟨sys, enc, h1, h2, e1⟩ := s51 (s := s) (a6 := a6) (due := due) (new := new) (giv := giv) (tbl := tbl) (row := row) (told := told) (ask := ask) (x := x) (es := es) (I := I) (L := L) (N := N) (m := m) hp
  obtain ⟨L1, hL1⟩ : ∃ L1, L1 = pushL1 N [sys, .int (p : Int), enc] L := ⟨_, rfl⟩
  have g1 : getL1 N L1 = some [sys, .int (p : Int), enc] := by rw [hL1]; exact get_push_self L
  have k1 : ∀ j, j ≠ N → getL1 j L1 = getL1 j L := fun j hj => by rw [hL1]; exact get_push_ne hj L
  rw [← hL1] at e1
  obtain ⟨byt, chr, h3, h4, e2⟩ := s52 (s := s) (a6 := a6) (new := new) (giv := giv) (tbl := tbl) (row := row) (told := told) (ask := ask) (x := x) (es := es) (I := I) (L := L1) (N := N) (m := m) (p := p) (L0 := L) _ g1 rfl
  obtain ⟨L2, hL2⟩ : ∃ L2, L2 = putL1 N ([sys, .int (p : Int), enc] ++ [byt, chr]) L1 := ⟨_, rfl⟩
  have g2 : getL1 N L2 = some [sys, .int (p : Int), enc, byt, chr] := by rw [hL2]; exact get_put_self g1
  have k2 : ∀ j, j ≠ N → getL1 j L2 = getL1 j L := fun j hj => by rw [hL2, get_put_ne hj]; exact k1 j hj
  rw [← hL2] at e2
  obtain ⟨c, hc⟩ : ∃ c : Ce, c = ⟨I.length, N, sys, p, enc, byt, chr⟩ := ⟨_, rfl⟩
  have hci : c.i = I.length := by rw [hc]
  have hcd : c.d = N := by rw [hc]
  have hcp : c.p = p := by rw [hc]
  have cok : c.ok := by rw [hc]; exact ⟨hp, h1, h2, h3, h4⟩
  have g2' : getL1 c.d L2 = some c.due := by rw [hc]; exact g2
  have e3 := s53 (s := s) (a6 := a6) (new := new) (giv := giv) (tbl := tbl) (row := row) (told := told) (ask := ask) (x := x) (es := es) (I := I) (L := L2) (N := N + 1) (m := m) cok g2' (by omega)
  rw [hcd, hcp] at e3
  have npos := G.pos
  obtain ⟨as, a1, a2, a3, a4⟩ := (G.ans.frame (k2 0 (by omega))).more seven7 seven
  have e4 := s54 (s := s) (a6 := a6) (due := .lob N) (pp := .int (p : Int)) (mm := .int m) (new := .ins I.length) (tbl := tbl) (row := row) (told := told) (ask := ask) (x := x) (es := es) (I := I ++ [c.ins]) (N := N + 1 + 1) a1 (by omega)
  obtain ⟨L3, hL3⟩ : ∃ L3, L3 = putL1 0 (as ++ seven7) L2 := ⟨_, rfl⟩
  rw [← hL3] at e4 a3 a4
  have e5 := s55 (s := s) (a6 := a6) (pp := .int (p : Int)) (mm := .int m) (giv := .lst seven7) (tbl := tbl) (row := row) (told := told) (ask := ask) (x := x) (I := I ++ [c.ins]) (L := L3) (N := N + 1 + 1) (c := c) G.len
  rw [hcd, hci] at e5
  refine ⟨es.drop (es.length - 4) ++ [c], .lob N, .ins I.length, .lst seven7, I ++ [c.ins], L3, N + 1 + 1, ?_, by simp, ⟨?_, ?_, a3, by omega⟩⟩
  · exact (then_next e1).trans ((then_next e2).trans ((then_next e3).trans ((then_next e4).trans ((then_next e5).trans rfl))))
  · have Cs : Cat (es.drop (es.length - 4)) I L N := G.cat.sub (List.drop_sublist _ _)
    have Cf : Cat (es.drop (es.length - 4)) (I ++ [c.ins]) L3 (N + 1 + 1) := Cs.frame (fun e he => get_old (Cs.lt he)) (fun e he => by rw [a4 _ (by have := (Cs.pos e he).1; omega), k2 _ (by have := (Cs.pos e he).2; omega)]) (by omega)
    refine Cat.perm (Cf.cons cok (by rw [hci]; exact get_last _ _) (by rw [a4 _ (by omega)]; exact g2') ⟨by omega, by omega⟩ (fun e he => by have := Cs.lt he; omega) (fun e he => by have := (Cs.pos e he).2; omega)) ?_
    exact List.perm_append_comm
  · have := G.len
    simp; omega
end
--@@
theorem mod_idx {es : List Ce} (h : es ≠ []) (hl : es.length ≤ 5) (m : Int) : ∃ j, ∃ h : j < es.length, m % (es.length : Int) = (j : Int) := by
  have : 0 < es.length := List.length_pos_iff.mpr h
  have h1 := Int.emod_nonneg m (show (es.length : Int) ≠ 0 by omega)
  have h2 := Int.emod_lt_of_pos m (show (0 : Int) < es.length by omega)
  exact ⟨(m % (es.length : Int)).toNat, by omega, by omega⟩
theorem mem_split_of {es : List Ce} {j : Nat} (h : j < es.length) : es = es.take j ++ es[j] :: es.drop (j + 1) := by
  rw [← List.drop_eq_getElem_cons h, List.take_append_drop]
theorem one_none : nones [.none] := by intro x hx; simpa using hx
section
variable {s a6 due pp mm new giv tbl row told ask : AV} {x : Int} {es : List Ce} {I : List Ins} {L : LH} {N M k p : Nat} {m : Int}
theorem entL_len : (entL es).length = es.length := by simp [entL]
theorem rcL_len : (rcL es).length = es.length := by simp [rcL]
theorem s71 {j : Nat} {as : List AV} (hj : j < es.length) (hl : es.length ≤ 5) (hm : m % (es.length : Int) = (j : Int)) (hi : I[es[j].i]? = some es[j].ins) (hp : p < 5) (ha : getL1 0 L = some as) (hk : as.length ≤ 1000) :
    S7_1 ⟨[s, .lst pubs, .int x, .lst (entL es), .lst (rcL es), .lob 0, a6, due, .int (p : Int), .int m, new, giv, tbl, row, told, ask], I, L, N⟩ = some (.next, ⟨[s, .lst pubs, .int x, .lst (entL es), .lst (rcL es), .lob 0, a6, due, .int (p : Int), .int m, new, giv, tbl, row, told, ask], I.set es[j].i { es[j].ins with pub := pubA p }, putL1 0 (as ++ [.none]) L, N⟩) := by
  have g := pub_at hp
  have l0 : (entL es).length ≤ 100000 := by rw [entL_len]; omega
  have l1 : as.length ≤ 100000 := by omega
  have g2 := fun st => item_lst (st := st) l0 (show (entL es)[j]? = some (.ins es[j].i) by simp [entL, hj])
  have c : ∀ (loc : List AV), callM (setF .pub) [.ins es[j].i, pubA p] ⟨loc, I, L, N⟩ = some (.none, ⟨loc, I.set es[j].i { es[j].ins with pub := pubA p }, L, N⟩) := fun loc => by
    simp [callM, setF, bd, putM, hi, pu, Ins.put]
  have hz : (es.length : Int) ≠ 0 := by omega
  unfold S7_1
  generalize setF .pub = SF at c ⊢
  have hz' : 0 < es.length := by omega
  simp [thenM, asgM, retM, dropM, iteM, bd, consM, methM, lmethM, chkL, var_eq, pu, no, lstM, tupM, newM, newLob, blank, setV, u_none, u_bool, u_int, u_str, u_bytes, u_ins, u_lob, u_lst, u_lsb, u_tup, bin2, cmp2, boolV, andM, addM, modM, divM, gtM, addLM, mulLM, itemsM, items2M, lenM, appendM, extendM, unpackM, consA, nilA, swapM, isM, isNotM, isF, frzV, frz0, g, l0, l1, entL_len, hm, g2, c, chkL, ha, hl, hz', show es.length ≤ 100000 by omega]
theorem s72 {j : Nat} (hj : j < es.length) (hl : es.length ≤ 5) (hm : m % (es.length : Int) = (j : Int)) (hd : getL1 es[j].d L = some es[j].due) :
    S7_2 ⟨[s, .lst pubs, .int x, .lst (entL es), .lst (rcL es), .lob 0, a6, due, .int (p : Int), .int m, new, giv, tbl, row, told, ask], I, L, N⟩ = some (.next, ⟨[s, .lst pubs, .int x, .lst (entL es), .lst (rcL es), .lob 0, a6, due, .int (p : Int), .int m, new, giv, tbl, row, told, ask], I, putL1 es[j].d { es[j] with p := p }.due L, N⟩) := by
  have l0 : (rcL es).length ≤ 100000 := by rw [rcL_len]; omega
  have g2 := fun st => item_lst (st := st) l0 (show (rcL es)[j]? = some (.lob es[j].d) by simp [rcL, hj])
  have hz' : 0 < es.length := by omega
  unfold Ce.due at hd
  simp [S7_2, thenM, asgM, retM, dropM, iteM, bd, consM, methM, lmethM, chkL, var_eq, pu, no, lstM, tupM, newM, newLob, blank, setV, u_none, u_bool, u_int, u_str, u_bytes, u_ins, u_lob, u_lst, u_lsb, u_tup, bin2, cmp2, boolV, andM, addM, modM, divM, gtM, addLM, mulLM, itemsM, items2M, lenM, appendM, extendM, unpackM, consA, nilA, swapM, isM, isNotM, isF, frzV, frz0, l0, entL_len, hm, g2, hd, setItemM, hz', show es.length ≤ 100000 by omega, Ce.due]
theorem nodup_at {α : Type} {f : α → Nat} {es : List α} (h : (es.map f).Nodup) {i j : Nat} (hi : i < es.length) (hj : j < es.length) (e : f es[i] = f es[j]) : i = j := by
  have hi' : i < (es.map f).length := by simpa using hi
  have hj' : j < (es.map f).length := by simpa using hj
  exact (List.getElem_inj h (h₀ := hi') (h₁ := hj')).mp (by simpa using e)
theorem entL_set {j : Nat} (hj : j < es.length) (c : Ce) (h : c.i = es[j].i) : entL (es.set j c) = entL es := by
  unfold entL
  rw [List.map_set]
  exact set_self (by simp [hj, h])
theorem rcL_set {j : Nat} (hj : j < es.length) (c : Ce) (h : c.d = es[j].d) : rcL (es.set j c) = rcL es := by
  unfold rcL
  rw [List.map_set]
  exact set_self (by simp [hj, h])
theorem step4 (G : Good es I L N k) (hne : es ≠ []) (hk : k ≤ 900) (hp : p < 5) : ∃ es' I' L', B_law_4 ⟨[s, .lst pubs, .int x, .lst (entL es), .lst (rcL es), .lob 0, a6, due, .int (p : Int), .int m, new, giv, tbl, row, told, ask], I, L, N⟩ = some (.next, ⟨[s, .lst pubs, .int x, .lst (entL es'), .lst (rcL es'), .lob 0, a6, due, .int (p : Int), .int m, new, giv, tbl, row, told, ask], I', L', N⟩) ∧ es' ≠ [] ∧ Good es' I' L' N (k + 7) := by
  obtain ⟨j, hj, hm⟩ := mod_idx hne G.len m
  have hmem : es[j] ∈ es := List.getElem_mem hj
  obtain ⟨as, a1, a2, a3, a4⟩ := G.ans.more [.none] one_none
  have e1 := s71 (s := s) (a6 := a6) (due := due) (new := new) (giv := giv) (tbl := tbl) (row := row) (told := told) (ask := ask) (x := x) (N := N) hj G.len hm (G.cat.ins _ hmem) hp a1 (by omega)
  obtain ⟨L1, hL1⟩ : ∃ L1, L1 = putL1 0 (as ++ [.none]) L := ⟨_, rfl⟩
  rw [← hL1] at e1 a3 a4
  have d0 := (G.cat.pos _ hmem).1
  have hd : getL1 es[j].d L1 = some es[j].due := by rw [a4 _ (by omega)]; exact G.cat.due _ hmem
  have e2 := s72 (s := s) (a6 := a6) (due := due) (new := new) (giv := giv) (tbl := tbl) (row := row) (told := told) (ask := ask) (x := x) (I := I.set es[j].i { es[j].ins with pub := pubA p }) (N := N) (p := p) hj G.len hm hd
  obtain ⟨c, hc⟩ : ∃ c : Ce, c = { es[j] with p := p } := ⟨_, rfl⟩
  have ci : c.i = es[j].i := by rw [hc]
  have cd : c.d = es[j].d := by rw [hc]
  have cins : c.ins = { es[j].ins with pub := pubA p } := by rw [hc]; rfl
  rw [← hc] at e2
  rw [← cins] at e1 e2
  have lt := G.cat.lt hmem
  refine ⟨es.set j c, I.set es[j].i c.ins, putL1 es[j].d c.due L1, ?_, by simpa using hne, ⟨⟨?_, ?_, ?_, ?_, ?_, ?_⟩, by simpa using G.len, ?_, G.pos⟩⟩
  · rw [entL_set hj c ci, rcL_set hj c cd, B_law_4, then_next e1, then_next e2]; rfl
  · intro e he
    rcases List.mem_or_eq_of_mem_set he with h | h
    · exact G.cat.ok e h
    · have ok := G.cat.ok _ hmem
      subst h; rw [hc]; exact ⟨hp, ok.sys, ok.enc, ok.byt, ok.chr⟩
  · intro e he
    obtain ⟨i, hi, rfl⟩ := List.mem_iff_getElem.mp he
    have hi' : i < es.length := by simpa using hi
    by_cases q : j = i
    · subst q
      rw [List.getElem_set_self, ci, List.getElem?_set_self lt]
    · rw [List.getElem_set_ne q, List.getElem?_set_ne (fun z => q (nodup_at G.cat.ni hj hi' z))]
      exact G.cat.ins _ (List.getElem_mem hi')
  · intro e he
    obtain ⟨i, hi, rfl⟩ := List.mem_iff_getElem.mp he
    have hi' : i < es.length := by simpa using hi
    by_cases q : j = i
    · subst q
      rw [List.getElem_set_self, cd, get_put_self hd]
    · rw [List.getElem_set_ne q, get_put_ne (fun z => q (nodup_at G.cat.nd hj hi' z.symm)), a4 _ (by have := (G.cat.pos _ (List.getElem_mem hi')).1; omega)]
      exact G.cat.due _ (List.getElem_mem hi')
  · intro e he
    rcases List.mem_or_eq_of_mem_set he with h | h
    · exact G.cat.pos e h
    · subst h; rw [cd]; exact G.cat.pos _ hmem
  · have : (es.set j c).map (·.i) = es.map (·.i) := by rw [List.map_set]; exact set_self (by simp [hj, ci])
    rw [this]; exact G.cat.ni
  · have : (es.set j c).map (·.d) = es.map (·.d) := by rw [List.map_set]; exact set_self (by simp [hj, cd])
    rw [this]; exact G.cat.nd
  · obtain ⟨as', b1, b2, b3⟩ := a3
    refine ⟨as', ?_, b2, ?_⟩
    · rw [get_put_ne (by omega)]; exact b1
    · simp at b3; omega
end
--@@
section
variable {s a6 due pp mm new giv tbl row told ask : AV} {x : Int} {es : List Ce} {I : List Ins} {L : LH} {N M k p : Nat} {m : Int}
theorem s81 : ∃ enc : AV, enc.pl = true ∧ S8_1 ⟨[s, .lst pubs, .int x, .lst (entL es), .lst (rcL es), .lob 0, a6, due, .int (p : Int), .int m, new, giv, tbl, row, told, ask], I, L, N⟩ = some (.next, ⟨[s, .lst pubs, .int x, .lst (entL es), .lst (rcL es), .lob 0, a6, .lob N, .int (p : Int), .int m, new, giv, tbl, row, told, .ins I.length], I ++ [blank (.str "q")], pushL1 N [.str "q", .int (p : Int), enc, .none, .none] L, N + 1⟩) := by
  obtain ⟨enc, h2, e2⟩ := pick_pl 3 [.none, .str "", .str "Q"] rfl (by decide) (by decide) (by intro x hx; simp at hx; rcases hx with rfl | rfl | rfl <;> rfl) m
  refine ⟨enc, h2, ?_⟩
  norm_cast at e2
  simp [S8_1, thenM, asgM, retM, dropM, iteM, bd, consM, methM, lmethM, chkL, var_eq, pu, no, lstM, tupM, newM, newLob, blank, setV, u_none, u_bool, u_int, u_str, u_bytes, u_ins, u_lob, u_lst, u_lsb, u_tup, bin2, cmp2, boolV, andM, addM, modM, divM, gtM, addLM, mulLM, itemsM, items2M, lenM, appendM, extendM, unpackM, consA, nilA, swapM, isM, isNotM, isF, frzV, frz0, e2, blank]
theorem s82 {d : Nat} {enc : AV} {ds : List AV} {as : List AV} (he : enc.pl = true) (hd : getL1 d L = some ds) (h2 : ds.length ≤ 5) (h3 : ds[2]? = some enc) (ha : getL1 0 L = some as) (hk : as.length ≤ 1000) : ∃ L', S8_2 ⟨[s, .lst pubs, .int x, .lst (entL es), .lst (rcL es), .lob 0, a6, .lob d, .int (p : Int), .int m, new, giv, tbl, row, told, .ins I.length], I ++ [blank (.str "q")], L, N⟩ = some (.next, ⟨[s, .lst pubs, .int x, .lst (entL es), .lst (rcL es), .lob 0, a6, .lob d, .int (p : Int), .int m, new, giv, tbl, row, told, .ins I.length], I ++ [⟨.str "q", .none, enc, .none, .none⟩], L', N⟩) ∧ (L' = L ∨ L' = putL1 0 (as ++ [.none]) L) := by
  have hi := pl_isN he
  have hl : as.length ≤ 100000 := by omega
  have g : ∀ st : AS, getL1 d st.lst = some ds → getItemM (.lob d) (.int 2) st = some (enc, st) := fun st h => by
    simp [getItemM, itemsM, h, show ds.length ≤ 100000 by omega, idxM, h3]
  by_cases q : isN enc = true
  · have : enc = .none := by cases enc <;> first | rfl | cases q
    subst this
    refine ⟨L, ?_, .inl rfl⟩
    simp [S8_2, thenM, asgM, retM, dropM, iteM, bd, consM, methM, lmethM, chkL, var_eq, pu, no, lstM, tupM, newM, newLob, blank, setV, u_none, u_bool, u_int, u_str, u_bytes, u_ins, u_lob, u_lst, u_lsb, u_tup, bin2, cmp2, boolV, andM, addM, modM, divM, gtM, addLM, mulLM, itemsM, items2M, lenM, appendM, extendM, unpackM, consA, nilA, swapM, isM, isNotM, isF, frzV, frz0, g, hd, isF, blank]
  · simp only [Bool.not_eq_true] at q
    rw [q] at hi
    refine ⟨putL1 0 (as ++ [.none]) L, ?_, .inr rfl⟩
    simp [S8_2, B_law_11, S15_1, thenM, asgM, retM, dropM, iteM, bd, consM, methM, lmethM, chkL, var_eq, pu, no, lstM, tupM, newM, newLob, blank, setV, u_none, u_bool, u_int, u_str, u_bytes, u_ins, u_lob, u_lst, u_lsb, u_tup, bin2, cmp2, boolV, andM, addM, modM, divM, gtM, addLM, mulLM, itemsM, items2M, lenM, appendM, extendM, unpackM, consA, nilA, swapM, isM, isNotM, isF, frzV, frz0, -isF, hi, g, hd, blank, chkL, ha, hl, callM, setF, putM, Ins.put]
theorem s83 {enc : AV} {as : List AV} (hp : p < 5) (ha : getL1 0 L = some as) (hk : as.length ≤ 1000) : ∃ L', S8_3 ⟨[s, .lst pubs, .int x, .lst (entL es), .lst (rcL es), .lob 0, a6, due, .int (p : Int), .int m, new, giv, tbl, row, told, .ins I.length], I ++ [⟨.str "q", .none, enc, .none, .none⟩], L, N⟩ = some (.next, ⟨[s, .lst pubs, .int x, .lst (entL es), .lst (rcL es), .lob 0, a6, due, .int (p : Int), .int m, new, giv, tbl, row, told, .ins I.length], I ++ [⟨.str "q", pubA p, enc, .none, .none⟩], L', N⟩) ∧ (L' = L ∨ L' = putL1 0 (as ++ [.none]) L) := by
  have hl : as.length ≤ 100000 := by omega
  by_cases q : p = 0
  · subst q
    refine ⟨L, ?_, .inl rfl⟩
    simp [S8_3, thenM, asgM, retM, dropM, iteM, bd, consM, methM, lmethM, chkL, var_eq, pu, no, lstM, tupM, newM, newLob, blank, setV, u_none, u_bool, u_int, u_str, u_bytes, u_ins, u_lob, u_lst, u_lsb, u_tup, bin2, cmp2, boolV, andM, addM, modM, divM, gtM, addLM, mulLM, itemsM, items2M, lenM, appendM, extendM, unpackM, consA, nilA, swapM, isM, isNotM, isF, frzV, frz0, gtM, pubA]
  · have q' : 0 < p := by omega
    have g := pub_at hp
    refine ⟨putL1 0 (as ++ [.none]) L, ?_, .inr rfl⟩
    simp [S8_3, B_law_10, S14_1, thenM, asgM, retM, dropM, iteM, bd, consM, methM, lmethM, chkL, var_eq, pu, no, lstM, tupM, newM, newLob, blank, setV, u_none, u_bool, u_int, u_str, u_bytes, u_ins, u_lob, u_lst, u_lsb, u_tup, bin2, cmp2, boolV, andM, addM, modM, divM, gtM, addLM, mulLM, itemsM, items2M, lenM, appendM, extendM, unpackM, consA, nilA, swapM, isM, isNotM, isF, frzV, frz0, gtM, q', g, chkL, ha, hl, callM, setF, putM, Ins.put]
theorem s84 {c : Ce} (hc : c.ok) (h1 : c.sys = .str "q") (h2 : c.byt = .none) (h3 : c.chr = .none) (hI : I[c.i]? = some c.ins) (hd : getL1 c.d L = some c.due) : S8_4 ⟨[s, .lst pubs, .int x, .lst (entL es), .lst (rcL es), .lob 0, a6, .lob c.d, .int (c.p : Int), .int m, new, giv, tbl, row, told, .ins c.i], I, L, N⟩ = some (.next, ⟨[s, .lst pubs, .int x, .lst (entL es), .lst (rcL es), .lob 0, a6, .lob c.d, .int (c.p : Int), .int m, new, giv, tbl, row, told, .ins c.i], I, L, N⟩) := by
  have t := fun loc => told_is hI loc L N
  have g := pub_at hc.p
  have q1 := fun st => pl_eq (st := st) (pub_pl hc.p) 6
  have q2 := fun st => pl_eq (st := st) hc.enc 6
  have gi : ∀ loc : List AV, getItemM (.lob c.d) (.int 2) ⟨loc, I, L, N⟩ = some (c.enc, ⟨loc, I, L, N⟩) := fun loc => item_lob (k := 2) hd (by simp [Ce.due]) rfl loc I N
  unfold S8_4
  generalize callM F_law_told = C at t ⊢
  simp [thenM, asgM, retM, dropM, iteM, bd, consM, methM, lmethM, chkL, var_eq, pu, no, lstM, tupM, newM, newLob, blank, setV, u_none, u_bool, u_int, u_str, u_bytes, u_ins, u_lob, u_lst, u_lsb, u_tup, bin2, cmp2, boolV, andM, addM, modM, divM, gtM, addLM, mulLM, itemsM, items2M, lenM, appendM, extendM, unpackM, consA, nilA, swapM, isM, isNotM, isF, frzV, frz0, t, g, gi, neM, eqF, eqAll, q1, q2, Ce.ins, h1, h2, h3]
theorem s85 {c : Ce} {as : List AV} (hc : c.ok) (hk : I[c.i]? = some c.ins) (he : ∀ e ∈ es, e.ok ∧ I[e.i]? = some e.ins ∧ c.i ≠ e.i) (ha : getL1 0 L = some as) (hl : as.length ≤ 1000) :
    ∃ ys, nones ys ∧ ys.length ≤ 4 ∧ S8_5 ⟨[s, .lst pubs, .int x, .lst (entL es), .lst (rcL es), .lob 0, a6, due, pp, .int m, new, giv, tbl, row, told, .ins c.i], I, L, N⟩ = some (.next, ⟨[s, .lst pubs, .int x, .lst (entL es), .lst (rcL es), .lob 0, a6, due, pp, .int m, new, giv, tbl, row, told, .ins c.i], I.set c.i (found es c).ins, putL1 0 (as ++ ys) L, N + 1⟩) := by
  obtain ⟨ys, h1, h2, h3⟩ := ans_is (b := decide (m % 2 = 0)) (N := N) (L := L) hc hk he [s, .lst pubs, .int x, .lst (entL es), .lst (rcL es), .lob 0, a6, due, pp, .int m, new, giv, tbl, row, told, .ins c.i]
  refine ⟨ys, h1, h2, ?_⟩
  have l : as.length + ys.length ≤ 100000 := by omega
  unfold S8_5
  generalize callM F_law_answered = C at h3 ⊢
  by_cases q : m % 2 = 0
  · simp [q, ordL] at h3
    simp [thenM, asgM, retM, dropM, iteM, bd, consM, methM, lmethM, chkL, var_eq, pu, no, lstM, tupM, newM, newLob, blank, setV, u_none, u_bool, u_int, u_str, u_bytes, u_ins, u_lob, u_lst, u_lsb, u_tup, bin2, cmp2, boolV, andM, addM, modM, divM, gtM, addLM, mulLM, itemsM, items2M, lenM, appendM, extendM, unpackM, consA, nilA, swapM, isM, isNotM, isF, frzV, frz0, eqM, eqF, q, h3, chkL, ha, l]
  · simp [q, ordL] at h3
    simp [thenM, asgM, retM, dropM, iteM, bd, consM, methM, lmethM, chkL, var_eq, pu, no, lstM, tupM, newM, newLob, blank, setV, u_none, u_bool, u_int, u_str, u_bytes, u_ins, u_lob, u_lst, u_lsb, u_tup, bin2, cmp2, boolV, andM, addM, modM, divM, gtM, addLM, mulLM, itemsM, items2M, lenM, appendM, extendM, unpackM, consA, nilA, swapM, isM, isNotM, isF, frzV, frz0, eqM, eqF, q, h3, chkL, ha, l]
theorem drop2 {c : Ce} : c.due.drop 2 = [c.enc, c.byt, c.chr] := rfl
theorem s101 {c : Ce} (hc : c.ok) (hd : getL1 c.d L = some c.due) : B_law_7 ⟨[s, .lst pubs, .int x, .lst (entL es), .lst (rcL es), .lob 0, a6, .lob c.d, .int (c.p : Int), .int m, new, giv, tbl, row, .lst [c.sys, pubA c.p, c.enc, c.byt, c.chr], ask], I, L, N⟩ = some (.next, ⟨[s, .lst pubs, .int x, .lst (entL es), .lst (rcL es), .lob 0, a6, .lob c.d, .int (c.p : Int), .int m, new, giv, tbl, row, .lst [c.sys, pubA c.p, c.enc, c.byt, c.chr], ask], I, L, N⟩) := by
  have g := pub_at hc.p
  have q1 := fun st => pl_eq (st := st) (pub_pl hc.p) 6
  have q2 := fun st => pl_eq (st := st) hc.enc 6
  have q3 := fun st => pl_eq (st := st) hc.sys 6
  have q4 := fun st => pl_eq (st := st) hc.byt 6
  have q5 := fun st => pl_eq (st := st) hc.chr 6
  have pk : ∀ xs : List AV, pickA xs (some 2) .none .none = xs.drop 2 := fun xs => pick_drop xs 2
  have gi : ∀ loc : List AV, getItemM (.lob c.d) (.int 0) ⟨loc, I, L, N⟩ = some (c.sys, ⟨loc, I, L, N⟩) := fun loc => item_lob (k := 0) hd (by simp [Ce.due]) rfl loc I N
  unfold Ce.due at hd
  simp [B_law_7, S10_1, thenM, asgM, retM, dropM, iteM, bd, consM, methM, lmethM, chkL, var_eq, pu, no, lstM, tupM, newM, newLob, blank, setV, u_none, u_bool, u_int, u_str, u_bytes, u_ins, u_lob, u_lst, u_lsb, u_tup, bin2, cmp2, boolV, andM, addM, modM, divM, gtM, addLM, mulLM, itemsM, items2M, lenM, appendM, extendM, unpackM, consA, nilA, swapM, isM, isNotM, isF, frzV, frz0, sliceM, partM, g, gi, hd, neM, eqF, eqAll, q1, q2, q3, q4, q5, pk]
theorem s89 {c : Ce} (hc : c.ok) (hI : I[c.i]? = some c.ins) (hd : getL1 c.d L = some c.due) : ∃ told', S8_9 ⟨[s, .lst pubs, .int x, .lst (entL es), .lst (rcL es), .lob 0, a6, .lob c.d, .int (c.p : Int), .int m, new, giv, tbl, row, told, .ins c.i], I, L, N⟩ = some (.next, ⟨[s, .lst pubs, .int x, .lst (entL es), .lst (rcL es), .lob 0, a6, .lob c.d, .int (c.p : Int), .int m, new, giv, tbl, row, told', .ins c.i], I, L, N⟩) := by
  have t := fun loc => told_is hI loc L N
  obtain ⟨tv, htv⟩ : ∃ tv, tv = AV.lst [c.sys, pubA c.p, c.enc, c.byt, c.chr] := ⟨_, rfl⟩
  refine ⟨tv, ?_⟩
  have e := s101 (s := s) (a6 := a6) (new := new) (giv := giv) (tbl := tbl) (row := row) (ask := .ins c.i) (x := x) (m := m) (es := es) (I := I) (N := N) hc hd
  rw [← htv] at e
  refine forL_is (xs := [tv, tv]) (st1 := ⟨[s, .lst pubs, .int x, .lst (entL es), .lst (rcL es), .lob 0, a6, .lob c.d, .int (c.p : Int), .int m, new, giv, tbl, row, told, .ins c.i], I, L, N⟩) ?_ ?_
  · have t' : ∀ loc, callM F_law_told [.ins c.i] ⟨loc, I, L, N⟩ = some (tv, ⟨loc, I, L, N⟩) := fun loc => by rw [htv]; exact t loc
    generalize callM F_law_told = C at t' ⊢
    simp [thenM, asgM, retM, dropM, iteM, bd, consM, methM, lmethM, chkL, var_eq, pu, no, lstM, tupM, newM, newLob, blank, setV, u_none, u_bool, u_int, u_str, u_bytes, u_ins, u_lob, u_lst, u_lsb, u_tup, bin2, cmp2, boolV, andM, addM, modM, divM, gtM, addLM, mulLM, itemsM, items2M, lenM, appendM, extendM, unpackM, consA, nilA, swapM, isM, isNotM, isF, frzV, frz0, t', lstIt]
  · rw [List.length_cons, List.length_cons, List.length_nil]
    rw [forL_cons (st1 := ⟨[s, .lst pubs, .int x, .lst (entL es), .lst (rcL es), .lob 0, a6, .lob c.d, .int (c.p : Int), .int m, new, giv, tbl, row, tv, .ins c.i], I, L, N⟩) rfl e]
    rw [forL_cons (st1 := ⟨[s, .lst pubs, .int x, .lst (entL es), .lst (rcL es), .lob 0, a6, .lob c.d, .int (c.p : Int), .int m, new, giv, tbl, row, tv, .ins c.i], I, L, N⟩) rfl e]
    rfl
theorem s810 {c : Ce} (hl : es.length ≤ 5) : ∃ es', (es' = es ∨ es' = c :: es.take 4) ∧ S8_10 ⟨[s, .lst pubs, .int x, .lst (entL es), .lst (rcL es), .lob 0, a6, .lob c.d, pp, .int m, new, giv, tbl, row, told, .ins c.i], I, L, N⟩ = some (.next, ⟨[s, .lst pubs, .int x, .lst (entL es'), .lst (rcL es'), .lob 0, a6, .lob c.d, pp, .int m, new, giv, tbl, row, told, .ins c.i], I, L, N⟩) := by
  by_cases q : x % 4 = 3
  · refine ⟨c :: es.take 4, .inr rfl, ?_⟩
    have pk : ∀ xs : List AV, pickA xs .none (some 4) .none = xs.take 4 := fun xs => pick_take xs 4
    have e1 : entL (c :: es.take 4) = .ins c.i :: (entL es).take 4 := by simp [entL]
    have e2 : rcL (c :: es.take 4) = .lob c.d :: (rcL es).take 4 := by simp [rcL]
    rw [e1, e2]
    have l1 : (entL es).length ≤ 100000 := by rw [entL_len]; omega
    have l2 : (rcL es).length ≤ 100000 := by rw [rcL_len]; omega
    have l3 : 1 + min 4 es.length ≤ 100000 := by omega
    simp [S8_10, B_law_5, S9_1, thenM, asgM, retM, dropM, iteM, bd, consM, methM, lmethM, chkL, var_eq, pu, no, lstM, tupM, newM, newLob, blank, setV, u_none, u_bool, u_int, u_str, u_bytes, u_ins, u_lob, u_lst, u_lsb, u_tup, bin2, cmp2, boolV, andM, addM, modM, divM, gtM, addLM, mulLM, itemsM, items2M, lenM, appendM, extendM, unpackM, consA, nilA, swapM, isM, isNotM, isF, frzV, frz0, sliceM, partM, eqM, eqF, q, pk, entL_len, rcL_len, hl, show es.length ≤ 100000 by omega, l3, show min 4 es.length + 1 ≤ 100000 by omega]
  · refine ⟨es, .inl rfl, ?_⟩
    simp [S8_10, thenM, asgM, retM, dropM, iteM, bd, consM, methM, lmethM, chkL, var_eq, pu, no, lstM, tupM, newM, newLob, blank, setV, u_none, u_bool, u_int, u_str, u_bytes, u_ins, u_lob, u_lst, u_lsb, u_tup, bin2, cmp2, boolV, andM, addM, modM, divM, gtM, addLM, mulLM, itemsM, items2M, lenM, appendM, extendM, unpackM, consA, nilA, swapM, isM, isNotM, isF, frzV, frz0, eqM, eqF, q]
end
--@@
theorem Ans.or {L L' : LH} {k : Nat} {as : List AV} (h : Ans L k) (ha : getL1 0 L = some as) (o : L' = L ∨ L' = putL1 0 (as ++ [.none]) L) : Ans L' (k + 1) ∧ ∀ j, j ≠ 0 → getL1 j L' = getL1 j L := by
  rcases o with rfl | rfl
  · obtain ⟨bs, b1, b2, b3⟩ := h
    exact ⟨⟨bs, b1, b2, by omega⟩, fun _ _ => rfl⟩
  · obtain ⟨bs, b1, b2, b3, b4⟩ := h.more [.none] one_none
    rw [ha] at b1; cases b1
    exact ⟨b3, b4⟩
theorem found_same (es : List Ce) (c : Ce) : (found es c).i = c.i ∧ (found es c).d = c.d ∧ (found es c).p = c.p := by
  unfold found
  split <;> exact ⟨rfl, rfl, rfl⟩
theorem found_ok {es : List Ce} {c : Ce} (h : ∀ e ∈ es, e.ok) (hc : c.ok) : (found es c).ok := by
  unfold found
  split
  · rename_i e z
    have he := h e (List.mem_of_find?_eq_some z)
    refine ⟨hc.p, he.sys, ?_, he.byt, he.chr⟩
    show (if isN c.enc = true then e.enc else c.enc).pl = true
    split
    · exact he.enc
    · exact hc.enc
  · exact hc
section
variable {s a6 due pp mm new giv tbl row told ask : AV} {x : Int} {es : List Ce} {I : List Ins} {L : LH} {N M k p : Nat} {m : Int}
theorem step12 (G : Good es I L N k) (hne : es ≠ []) (hk : k ≤ 900) (hp : p < 5) : ∃ es' due' tbl' row' told' ask' I' L' N', B_law_12 ⟨[s, .lst pubs, .int x, .lst (entL es), .lst (rcL es), .lob 0, a6, due, .int (p : Int), .int m, new, giv, tbl, row, told, ask], I, L, N⟩ = some (.next, ⟨[s, .lst pubs, .int x, .lst (entL es'), .lst (rcL es'), .lob 0, a6, due', .int (p : Int), .int m, new, giv, tbl', row', told', ask'], I', L', N'⟩) ∧ es' ≠ [] ∧ Good es' I' L' N' (k + 7) := by
  have npos := G.pos
  obtain ⟨enc, he, e1⟩ := s81 (s := s) (a6 := a6) (due := due) (new := new) (giv := giv) (tbl := tbl) (row := row) (told := told) (ask := ask) (x := x) (es := es) (I := I) (L := L) (N := N) (p := p) (m := m)
  obtain ⟨L1, hL1⟩ : ∃ L1, L1 = pushL1 N [.str "q", .int (p : Int), enc, .none, .none] L := ⟨_, rfl⟩
  have g1 : getL1 N L1 = some [.str "q", .int (p : Int), enc, .none, .none] := by rw [hL1]; exact get_push_self L
  have k1 : ∀ j, j ≠ N → getL1 j L1 = getL1 j L := fun j hj => by rw [hL1]; exact get_push_ne hj L
  rw [← hL1] at e1
  have A1 : Ans L1 k := G.ans.frame (k1 0 (by omega))
  obtain ⟨as1, a1, -, l1⟩ := id A1
  obtain ⟨L2, e2, o2⟩ := s82 (s := s) (a6 := a6) (new := new) (giv := giv) (tbl := tbl) (row := row) (told := told) (x := x) (es := es) (I := I) (N := N + 1) (p := p) (m := m) he g1 (by simp) rfl a1 (by omega)
  obtain ⟨A2, k2⟩ := A1.or a1 o2
  obtain ⟨as2, a2, -, l2⟩ := id A2
  obtain ⟨L3, e3, o3⟩ := s83 (s := s) (a6 := a6) (due := .lob N) (new := new) (giv := giv) (tbl := tbl) (row := row) (told := told) (x := x) (es := es) (I := I) (N := N + 1) (m := m) (enc := enc) hp a2 (by omega)
  obtain ⟨A3, k3⟩ := A2.or a2 o3
  obtain ⟨as3, a3, n3, l3⟩ := id A3
  obtain ⟨c, hc⟩ : ∃ c : Ce, c = ⟨I.length, N, .str "q", p, enc, .none, .none⟩ := ⟨_, rfl⟩
  have ci : c.i = I.length := by rw [hc]
  have cd : c.d = N := by rw [hc]
  have cp : c.p = p := by rw [hc]
  have cins : c.ins = ⟨.str "q", pubA p, enc, .none, .none⟩ := by rw [hc]; rfl
  have cok : c.ok := by rw [hc]; exact ⟨hp, rfl, he, rfl, rfl⟩
  have g3 : getL1 c.d L3 = some c.due := by rw [cd, k3 _ (by omega), k2 _ (by omega), g1, hc]; rfl
  have k3' : ∀ j, j ≠ 0 → j ≠ N → getL1 j L3 = getL1 j L := fun j h0 h1 => by rw [k3 _ h0, k2 _ h0, k1 _ h1]
  rw [← cins] at e3
  have hI : (I ++ [c.ins])[c.i]? = some c.ins := by rw [ci]; exact get_last _ _
  have e4 := s84 (s := s) (a6 := a6) (new := new) (giv := giv) (tbl := tbl) (row := row) (told := told) (x := x) (es := es) (N := N + 1) (m := m) cok (by rw [hc]) (by rw [hc]) (by rw [hc]) hI g3
  have C3 : ∀ e ∈ es, e.ok ∧ (I ++ [c.ins])[e.i]? = some e.ins ∧ c.i ≠ e.i := fun e he => ⟨G.cat.ok e he, by rw [get_old (G.cat.lt he)]; exact G.cat.ins e he, by have := G.cat.lt he; omega⟩
  obtain ⟨ys, y1, y2, e5⟩ := s85 (s := s) (a6 := a6) (due := .lob c.d) (pp := .int (c.p : Int)) (new := new) (giv := giv) (tbl := tbl) (row := row) (told := told) (x := x) (N := N + 1) (m := m) cok hI C3 a3 (by omega)
  have hset : (I ++ [c.ins]).set c.i (found es c).ins = I ++ [(found es c).ins] := by rw [ci]; exact set_last _ _ _
  rw [hset] at e5
  obtain ⟨bs, b1, b2, A5, k5⟩ := A3.more ys y1
  rw [a3] at b1; cases b1
  obtain ⟨L5, hL5⟩ : ∃ L5, L5 = putL1 0 (as3 ++ ys) L3 := ⟨_, rfl⟩
  rw [← hL5] at e5 A5 k5
  have dE : ∀ e ∈ es, e.d ≠ 0 ∧ e.d ≠ N ∧ e.d < N := fun e he => by have := G.cat.pos e he; omega
  have g5 : getL1 c.d L5 = some c.due := by rw [k5 _ (by omega)]; exact g3
  have h5 : ∀ e ∈ es, getL1 e.d L5 = some e.due := fun e he => by rw [k5 _ (dE e he).1, k3' _ (dE e he).1 (dE e he).2.1]; exact G.cat.due e he
  obtain ⟨d', L6, N6, r, e6, g6, k6, n6, d6, d6'⟩ := table_is (s := s) (x := .int x) (a6 := a6) (more := .int m) (new := new) (giv := giv) (tbl := tbl) (row := row) (told := told) (ask := .ins c.i) (I := I ++ [(found es c).ins]) (N := N + 1 + 1) cok g5 h5 G.len (by omega)
  obtain ⟨f1, f2, f3⟩ := found_same es c
  have fok := found_ok (es := es) (fun e he => G.cat.ok e he) cok
  obtain ⟨c1, hc1⟩ : ∃ c1 : Ce, c1 = { found es c with d := d' } := ⟨_, rfl⟩
  have c1i : c1.i = c.i := by rw [hc1]; exact f1
  have c1d : c1.d = d' := by rw [hc1]
  have c1p : c1.p = c.p := by rw [hc1]; exact f3
  have c1ok : c1.ok := by rw [hc1]; exact ⟨fok.p, fok.sys, fok.enc, fok.byt, fok.chr⟩
  have c1ins : c1.ins = (found es c).ins := by rw [hc1]; rfl
  have c1due : c1.due = (found es c).due := by rw [hc1]; rfl
  have hI1 : (I ++ [(found es c).ins])[c1.i]? = some c1.ins := by rw [c1i, ci, c1ins]; exact get_last _ _
  have g7 : getL1 c1.d L6 = some c1.due := by rw [c1d, c1due]; exact g6
  obtain ⟨tv, e7⟩ := s89 (s := s) (a6 := a6) (new := new) (giv := giv) (tbl := .unb) (row := r) (told := told) (x := x) (es := es) (N := N6) (m := m) c1ok hI1 g7
  obtain ⟨es', oes, e8⟩ := s810 (s := s) (a6 := a6) (pp := .int (c1.p : Int)) (new := new) (giv := giv) (tbl := .unb) (row := r) (told := tv) (x := x) (es := es) (I := I ++ [(found es c).ins]) (L := L6) (N := N6) (m := m) (c := c1) G.len
  rw [c1d, c1i, c1p] at e7 e8
  rw [ci, cd, cp] at e4
  rw [ci, cd, cp] at e5
  rw [ci, cd, cp] at e6
  rw [ci, cp] at e7 e8
  have Cf : Cat es (I ++ [(found es c).ins]) L6 N6 := G.cat.frame (fun e he => get_old (G.cat.lt he)) (fun e he => by rw [k6 _ (by have := (dE e he).2.2; omega), h5 e he, G.cat.due e he]) (by omega)
  have A6 : Ans L6 (k + 1 + 1 + ys.length) := A5.frame (k6 0 (by omega))
  refine ⟨es', .lob d', .unb, r, tv, .ins I.length, I ++ [(found es c).ins], L6, N6, ?_, ?_, ⟨?_, ?_, ?_, by omega⟩⟩
  · exact (then_next e1).trans ((then_next e2).trans ((then_next e3).trans ((then_next e4).trans ((then_next e5).trans ((e6 _).trans ((then_next e7).trans ((then_next e8).trans rfl)))))))
  · rcases oes with rfl | rfl
    · exact hne
    · simp
  · rcases oes with rfl | rfl
    · exact Cf
    · have Ct := Cf.sub (List.take_sublist 4 es)
      refine Ct.cons c1ok hI1 g7 ⟨by rw [c1d]; omega, by rw [c1d]; exact d6'⟩ (fun e he => ?_) (fun e he => ?_)
      · have := G.cat.lt (List.mem_of_mem_take he); omega
      · have := (dE e (List.mem_of_mem_take he)).2.2
        rw [c1d]; omega
  · have := G.len
    rcases oes with rfl | rfl
    · exact this
    · simp; omega
  · obtain ⟨bs, b1, b2, b3⟩ := A6
    exact ⟨bs, b1, b2, by omega⟩
theorem step (G : Good es I L N k) (hne : es ≠ [] ∨ x % 4 = 0) (hk : k ≤ 900) : ∃ es' due' pp' mm' new' giv' tbl' row' told' ask' I' L' N', B_law_14 ⟨[s, .lst pubs, .int x, .lst (entL es), .lst (rcL es), .lob 0, a6, due, pp, mm, new, giv, tbl, row, told, ask], I, L, N⟩ = some (.next, ⟨[s, .lst pubs, .int x, .lst (entL es'), .lst (rcL es'), .lob 0, a6, due', pp', mm', new', giv', tbl', row', told', ask'], I', L', N'⟩) ∧ es' ≠ [] ∧ Good es' I' L' N' (k + 7) := by
  obtain ⟨p, hp, ep⟩ : ∃ p : Nat, p < 5 ∧ x / 4 % 5 = (p : Int) := ⟨(x / 4 % 5).toNat, by omega, by omega⟩
  have e0 := s41 (s := s) (a6 := a6) (due := due) (pp := pp) (mm := mm) (new := new) (giv := giv) (tbl := tbl) (row := row) (told := told) (ask := ask) (x := x) (es := es) (I := I) (L := L) (N := N)
  rw [ep] at e0
  have t0 : ∀ r : Int, cmp2 (bin2 (var 2) (pu (.int 4)) modM) (pu (.int r)) eqM ⟨[s, .lst pubs, .int x, .lst (entL es), .lst (rcL es), .lob 0, a6, due, .int (p : Int), .int (x / 20), new, giv, tbl, row, told, ask], I, L, N⟩ = some (decide (x % 4 = r), ⟨[s, .lst pubs, .int x, .lst (entL es), .lst (rcL es), .lob 0, a6, due, .int (p : Int), .int (x / 20), new, giv, tbl, row, told, ask], I, L, N⟩) := fun r => by
    by_cases q : x % 4 = r <;> simp [thenM, asgM, retM, dropM, iteM, bd, consM, methM, lmethM, chkL, var_eq, pu, no, lstM, tupM, newM, newLob, blank, setV, u_none, u_bool, u_int, u_str, u_bytes, u_ins, u_lob, u_lst, u_lsb, u_tup, bin2, cmp2, boolV, andM, addM, modM, divM, gtM, addLM, mulLM, itemsM, items2M, lenM, getItemM, idxM, appendM, extendM, getL1, putL1, lookL, putSeg, pushL1, unpackM, consA, nilA, swapM, isM, isNotM, isF, frzV, frz0, eqM, eqF, q]
  by_cases q0 : x % 4 = 0
  · obtain ⟨es', due', new', giv', I', L', N', e1, h1, h2⟩ := step3 (s := s) (a6 := a6) (due := due) (new := new) (giv := giv) (tbl := tbl) (row := row) (told := told) (ask := ask) (x := x) (m := x / 20) G hk hp
    refine ⟨es', due', .int (p : Int), .int (x / 20), new', giv', tbl, row, told, ask, I', L', N', ?_, h1, h2⟩
    have t := t0 0
    rw [decide_eq_true q0] at t
    have e2 : S4_2 _ = _ := (ite_t t).trans e1
    exact (then_next e0).trans ((then_next e2).trans rfl)
  · have hne' := hne.resolve_right q0
    by_cases q1 : x % 4 = 1
    · obtain ⟨es', I', L', e1, h1, h2⟩ := step4 (s := s) (a6 := a6) (due := due) (new := new) (giv := giv) (tbl := tbl) (row := row) (told := told) (ask := ask) (x := x) (m := x / 20) G hne' hk hp
      refine ⟨es', due, .int (p : Int), .int (x / 20), new, giv, tbl, row, told, ask, I', L', N, ?_, h1, h2⟩
      have t := t0 0
      rw [decide_eq_false q0] at t
      have t' := t0 1
      rw [decide_eq_true q1] at t'
      have e3 : S6_1 _ = _ := (ite_t t').trans e1
      have e2 : S4_2 _ = _ := (ite_f t).trans ((then_next e3).trans rfl)
      exact (then_next e0).trans ((then_next e2).trans rfl)
    · obtain ⟨es', due', tbl', row', told', ask', I', L', N', e1, h1, h2⟩ := step12 (s := s) (a6 := a6) (due := due) (new := new) (giv := giv) (tbl := tbl) (row := row) (told := told) (ask := ask) (x := x) (m := x / 20) G hne' hk hp
      refine ⟨es', due', .int (p : Int), .int (x / 20), new, giv, tbl', row', told', ask', I', L', N', ?_, h1, h2⟩
      have t := t0 0
      rw [decide_eq_false q0] at t
      have t' := t0 1
      rw [decide_eq_false q1] at t'
      have e3 : S6_1 _ = _ := (ite_f t').trans e1
      have e2 : S4_2 _ = _ := (ite_f t).trans ((then_next e3).trans rfl)
      exact (then_next e0).trans ((then_next e2).trans rfl)
end
--@@
theorem steps {s a6 : AV} : ∀ (xs : List Int) {x0 due pp mm new giv tbl row told ask : AV} {es : List Ce} {I : List Ins} {L : LH} {N k : Nat}, Good es I L N k → (es ≠ [] ∨ (xs.headD 0) % 4 = 0) → k + 7 * xs.length ≤ 900 →
    ∃ x0' es' due' pp' mm' new' giv' tbl' row' told' ask' I' L' N', forG nxL (setV 2) B_law_14 (xs.length + 1) (xs.map .int) ⟨[s, .lst pubs, x0, .lst (entL es), .lst (rcL es), .lob 0, a6, due, pp, mm, new, giv, tbl, row, told, ask], I, L, N⟩ = some (.next, ⟨[s, .lst pubs, x0', .lst (entL es'), .lst (rcL es'), .lob 0, a6, due', pp', mm', new', giv', tbl', row', told', ask'], I', L', N'⟩) ∧ Good es' I' L' N' (k + 7 * xs.length)
  | [], x0, due, pp, mm, new, giv, tbl, row, told, ask, es, I, L, N, k, G, _, _ => ⟨x0, es, due, pp, mm, new, giv, tbl, row, told, ask, I, L, N, rfl, G⟩
  | x :: xs, x0, due, pp, mm, new, giv, tbl, row, told, ask, es, I, L, N, k, G, h1, h2 => by
    rw [List.length_cons] at h2
    obtain ⟨es1, due1, pp1, mm1, new1, giv1, tbl1, row1, told1, ask1, I1, L1, N1, e1, n1, G1⟩ := step (s := s) (a6 := a6) (due := due) (pp := pp) (mm := mm) (new := new) (giv := giv) (tbl := tbl) (row := row) (told := told) (ask := ask) (x := x) G h1 (by omega)
    obtain ⟨x0', es', due', pp', mm', new', giv', tbl', row', told', ask', I', L', N', e2, G2⟩ := steps (s := s) (a6 := a6) xs (x0 := .int x) (due := due1) (pp := pp1) (mm := mm1) (new := new1) (giv := giv1) (tbl := tbl1) (row := row1) (told := told1) (ask := ask1) G1 (.inl n1) (by omega)
    refine ⟨x0', es', due', pp', mm', new', giv', tbl', row', told', ask', I', L', N', ?_, by rw [List.length_cons, show k + 7 * (xs.length + 1) = k + 7 + 7 * xs.length by omega]; exact G2⟩
    rw [List.length_cons, List.map_cons, forL_cons (st1 := ⟨[s, .lst pubs, .int x, .lst (entL es), .lst (rcL es), .lob 0, a6, due, pp, mm, new, giv, tbl, row, told, ask], I, L, N⟩) rfl e1]
    exact e2
--@@
section
variable {s x due pp mm new giv tbl row told ask : AV} {es : List Ce} {I : List Ins} {L : LH} {N : Nat}
theorem s21 {c : Ce} (hc : c.ok) (hI : I[c.i]? = some c.ins) (hd : getL1 c.d L = some c.due) : B_law_2 ⟨[s, .lst pubs, x, .lst (entL es), .lst (rcL es), .lob 0, .ins c.i, .lob c.d, pp, mm, new, giv, tbl, row, told, ask], I, L, N⟩ = some (.next, ⟨[s, .lst pubs, x, .lst (entL es), .lst (rcL es), .lob 0, .ins c.i, .lob c.d, pp, mm, new, giv, tbl, row, told, ask], I, L, N⟩) := by
  have t := fun loc => told_is hI loc L N
  have g := pub_at hc.p
  have q1 := fun st => pl_eq (st := st) (pub_pl hc.p) 6
  have q2 := fun st => pl_eq (st := st) hc.enc 6
  have q3 := fun st => pl_eq (st := st) hc.sys 6
  have q4 := fun st => pl_eq (st := st) hc.byt 6
  have q5 := fun st => pl_eq (st := st) hc.chr 6
  have pk : ∀ xs : List AV, pickA xs (some 2) .none .none = xs.drop 2 := fun xs => pick_drop xs 2
  have gi : ∀ loc : List AV, getItemM (.lob c.d) (.int 0) ⟨loc, I, L, N⟩ = some (c.sys, ⟨loc, I, L, N⟩) := fun loc => item_lob (k := 0) hd (by simp [Ce.due]) rfl loc I N
  have gj : ∀ loc : List AV, getItemM (.lob c.d) (.int 1) ⟨loc, I, L, N⟩ = some (.int (c.p : Int), ⟨loc, I, L, N⟩) := fun loc => item_lob (k := 1) hd (by simp [Ce.due]) rfl loc I N
  unfold Ce.due at hd
  unfold B_law_2 S2_1
  generalize callM F_law_told = C at t ⊢
  simp [thenM, asgM, retM, dropM, iteM, bd, consM, methM, lmethM, chkL, var_eq, pu, no, lstM, tupM, newM, newLob, blank, setV, u_none, u_bool, u_int, u_str, u_bytes, u_ins, u_lob, u_lst, u_lsb, u_tup, bin2, cmp2, boolV, andM, addM, modM, divM, gtM, addLM, mulLM, itemsM, items2M, lenM, appendM, extendM, unpackM, consA, nilA, swapM, isM, isNotM, isF, frzV, frz0, t, sliceM, partM, g, gi, gj, hd, neM, eqF, eqAll, q1, q2, q3, q4, q5, pk, Ce.ins]
theorem ending (h : ∀ c ∈ es, c.ok ∧ I[c.i]? = some c.ins ∧ getL1 c.d L = some c.due) : ∀ (cs : List Ce) (a6 d : AV), (∀ c ∈ cs, c ∈ es) → ∃ a6' d', forG nxZ (unpackM 2 (consA (setV 6) (consA (setV 7) nilA))) B_law_2 (cs.length + 1) [entL cs, rcL cs] ⟨[s, .lst pubs, x, .lst (entL es), .lst (rcL es), .lob 0, a6, d, pp, mm, new, giv, tbl, row, told, ask], I, L, N⟩ = some (.next, ⟨[s, .lst pubs, x, .lst (entL es), .lst (rcL es), .lob 0, a6', d', pp, mm, new, giv, tbl, row, told, ask], I, L, N⟩)
  | [], a6, d, _ => ⟨a6, d, forZ_end rfl⟩
  | c :: cs, a6, d, hs => by
    obtain ⟨h1, h2, h3⟩ := h c (hs c List.mem_cons_self)
    obtain ⟨a6', d', e⟩ := ending h cs (.ins c.i) (.lob c.d) fun e he => hs e (List.mem_cons_of_mem _ he)
    refine ⟨a6', d', ?_⟩
    rw [List.length_cons, forZ_next (hs := [.ins c.i, .lob c.d]) (ts := [entL cs, rcL cs]) (st1 := ⟨[s, .lst pubs, x, .lst (entL es), .lst (rcL es), .lob 0, .ins c.i, .lob c.d, pp, mm, new, giv, tbl, row, told, ask], I, L, N⟩) rfl rfl (s21 h1 h2 h3)]
    exact e
end
theorem p12 (s : AV) : ∀ g : Cm AF, thenM S1_1 (thenM S1_2 g) ⟨[s, .unb, .unb, .unb, .unb, .unb, .unb, .unb, .unb, .unb, .unb, .unb, .unb, .unb, .unb, .unb], [], [[]], 0⟩ = g ⟨[s, .lst pubs, .unb, .lst [], .lst [], .lob 0, .unb, .unb, .unb, .unb, .unb, .unb, .unb, .unb, .unb, .unb], [], [[(0, [])]], 1⟩ := by
  intro g
  kernel_rfl
theorem p3 {s : AV} (ns ms : List Int) (hs : s = .lsb (ns.map .int)) (hm : ms = [208, 92, 64, 29, 63, 22, 10, 70] ++ ns) (h : ns.length ≤ 63) (l1 l2 l3 l4 l5 l6 l7 l8 l9 l10 l11 l12 l13 l14 l15 : AV) (I : List Ins) (L : LH) (N : Nat) :
    bd (bin2 (bd (consM (pu (.int 208)) (consM (pu (.int 92)) (consM (pu (.int 64)) (consM (pu (.int 29)) (consM (pu (.int 63)) (consM (pu (.int 22)) (consM (pu (.int 10)) (consM (pu (.int 70)) (pu []))))))))) lstM) (var 0) addM) lstIt ⟨[s, l1, l2, l3, l4, l5, l6, l7, l8, l9, l10, l11, l12, l13, l14, l15], I, L, N⟩ = some (ms.map .int, ⟨[s, l1, l2, l3, l4, l5, l6, l7, l8, l9, l10, l11, l12, l13, l14, l15], I, L, N⟩) := by
  subst hs hm
  simp [thenM, asgM, retM, dropM, iteM, bd, consM, methM, lmethM, chkL, var_eq, pu, no, lstM, tupM, newM, newLob, blank, setV, u_none, u_bool, u_int, u_str, u_bytes, u_ins, u_lob, u_lst, u_lsb, u_tup, bin2, cmp2, boolV, andM, addM, modM, divM, gtM, addLM, mulLM, itemsM, items2M, lenM, getItemM, idxM, appendM, extendM, getL1, putL1, lookL, putSeg, pushL1, unpackM, consA, nilA, swapM, isM, isNotM, isF, frzV, frz0, lstIt, show 8 + ns.length ≤ 100000 by omega]
theorem p5 {s l1 l2 l3 l4 l6 l7 l8 l9 l10 l11 l12 l13 l14 l15 : AV} {I : List Ins} {L : LH} {N k : Nat} (h : Ans L k) (hk : k ≤ 1000) : S1_5 ⟨[s, l1, l2, l3, l4, .lob 0, l6, l7, l8, l9, l10, l11, l12, l13, l14, l15], I, L, N⟩ = some (.ret (.bool true), ⟨[s, l1, l2, l3, l4, .lob 0, l6, l7, l8, l9, l10, l11, l12, l13, l14, l15], I, L, N⟩) := by
  obtain ⟨as, h1, h2, h3⟩ := h
  have e := eqAll_nones ⟨[s, l1, l2, l3, l4, .lob 0, l6, l7, l8, l9, l10, l11, l12, l13, l14, l15], I, L, N⟩ as h2
  have hl : as.length ≤ 100000 := by omega
  simp [S1_5, thenM, asgM, retM, dropM, iteM, bd, consM, methM, lmethM, chkL, var_eq, pu, no, lstM, tupM, newM, newLob, blank, setV, u_none, u_bool, u_int, u_str, u_bytes, u_ins, u_lob, u_lst, u_lsb, u_tup, bin2, cmp2, boolV, andM, addM, modM, divM, gtM, addLM, mulLM, itemsM, items2M, lenM, appendM, extendM, unpackM, consA, nilA, swapM, isM, isNotM, isF, frzV, frz0, h1, hl, mulM, eqM, eqF, e, show (as.length : Int) ≤ 100000 by omega]
theorem plain (ns : List Int) (h : ns.length ≤ 63) : ∃ st', B_law ⟨.lsb (ns.map .int) :: List.replicate 15 .unb, [], [[]], 0⟩ = some (.ret (.bool true), st') := by
  have hu : List.replicate 15 AV.unb = [.unb, .unb, .unb, .unb, .unb, .unb, .unb, .unb, .unb, .unb, .unb, .unb, .unb, .unb, .unb] := rfl
  rw [hu]
  obtain ⟨s, hs⟩ : ∃ s, s = AV.lsb (ns.map .int) := ⟨_, rfl⟩
  obtain ⟨ms, hms⟩ : ∃ ms : List Int, ms = [208, 92, 64, 29, 63, 22, 10, 70] ++ ns := ⟨_, rfl⟩
  rw [← hs]
  have lms : ms.length = 8 + ns.length := by rw [hms]; simp; omega
  have G0 : Good [] [] [[(0, [])]] 1 0 := ⟨⟨fun c hc => (by cases hc), fun c hc => (by cases hc), fun c hc => (by cases hc), fun c hc => (by cases hc), List.nodup_nil, List.nodup_nil⟩, by simp, ⟨[], rfl, fun x hx => (by cases hx), by simp⟩, by omega⟩
  obtain ⟨x0', es', due', pp', mm', new', giv', tbl', row', told', ask', I', L', N', e3, G⟩ := steps (s := s) (a6 := .unb) ms (x0 := .unb) (due := .unb) (pp := .unb) (mm := .unb) (new := .unb) (giv := .unb) (tbl := .unb) (row := .unb) (told := .unb) (ask := .unb) G0 (.inr (by rw [hms]; rfl)) (by omega)
  have lm : (ms.map AV.int).length = ms.length := List.length_map ..
  rw [← lm] at e3
  have e3' : S1_3 _ = _ := forL_is (p3 ns ms hs hms h _ _ _ _ _ _ _ _ _ _ _ _ _ _ _ _ _ _) e3
  obtain ⟨a6', d', e4⟩ := ending (s := s) (x := x0') (pp := pp') (mm := mm') (new := new') (giv := giv') (tbl := tbl') (row := row') (told := told') (ask := ask') (N := N') (es := es') (I := I') (L := L') (fun c hc => ⟨G.cat.ok c hc, G.cat.ins c hc, G.cat.due c hc⟩) es' .unb due' fun c hc => hc
  have e4' : S1_4 ⟨[s, .lst pubs, x0', .lst (entL es'), .lst (rcL es'), .lob 0, .unb, due', pp', mm', new', giv', tbl', row', told', ask'], I', L', N'⟩ = some (.next, ⟨[s, .lst pubs, x0', .lst (entL es'), .lst (rcL es'), .lob 0, a6', d', pp', mm', new', giv', tbl', row', told', ask'], I', L', N'⟩) := by
    have q : bd (consM (var 3) (consM (var 4) (pu []))) zipIt ⟨[s, .lst pubs, x0', .lst (entL es'), .lst (rcL es'), .lob 0, .unb, due', pp', mm', new', giv', tbl', row', told', ask'], I', L', N'⟩ = some ([entL es', rcL es'], ⟨[s, .lst pubs, x0', .lst (entL es'), .lst (rcL es'), .lob 0, .unb, due', pp', mm', new', giv', tbl', row', told', ask'], I', L', N'⟩) := by simp [thenM, asgM, retM, dropM, iteM, bd, consM, methM, lmethM, chkL, var_eq, pu, no, lstM, tupM, newM, newLob, blank, setV, u_none, u_bool, u_int, u_str, u_bytes, u_ins, u_lob, u_lst, u_lsb, u_tup, bin2, cmp2, boolV, andM, addM, modM, divM, gtM, addLM, mulLM, itemsM, items2M, lenM, getItemM, idxM, appendM, extendM, getL1, putL1, lookL, putSeg, pushL1, unpackM, consA, nilA, swapM, isM, isNotM, isF, frzV, frz0, zipIt]
    rw [S1_4, forM', bd_is q]
    show forG nxZ _ B_law_2 ((entL es').length + 1) _ _ = _
    rw [entL_len]
    exact e4
  have e5 := p5 (s := s) (l1 := .lst pubs) (l2 := x0') (l3 := .lst (entL es')) (l4 := .lst (rcL es')) (l6 := a6') (l7 := d') (l8 := pp') (l9 := mm') (l10 := new') (l11 := giv') (l12 := tbl') (l13 := row') (l14 := told') (l15 := ask') (I := I') (N := N') G.ans (by omega)
  exact ⟨_, by rw [B_law, p12]; exact (then_next e3').trans ((then_next e4').trans (then_ret e5))⟩

end Mine
set_option maxRecDepth 100000 in
set_option maxHeartbeats 8000000 in
theorem PySem.Challenge.cw_dn0304_11_holds : PySem.Challenge.rw_dn0304_11.Holds :=
  hd11 (by
  k_go0
  have KX := ‹(hd11.heap_39 _).In _›
  have T := ‹Top _ _ _ _ _ _›
  have F := ‹Fr _ _ _ _›
  have hL := ‹Heap.IsList _ _ _›
  have hI := ‹IntsAre _ _›
  have hB := T.builtins
  have G : Mine.Gd (Mine.cx _ _ _ _) := ⟨KX, T.g, T.b, T.nolimit⟩
  refine Mine.law_ok (n := 12) (x := "script") (others := ["publics", "x", "entries", "record", "answers", "entry", "due", "p", "more", "new", "given", "table", "row", "told", "asked"]) (f := Mine.B_law) G ?hS (by decide) rfl (by decide +kernel) (by decide +kernel) F rfl hL hI (Mine.plain _ (by omega)) (fun s' k1 k2 k3 => ?_)
  case hS =>
    open Mine in
    refine ImplS.cons ?_ ?_
    · refine ImplS1.assign ?_ ?_
      · refine ImplE.list ?_
        refine ImplEs.cons ?_ ?_
        · exact ImplE.cnone
        refine ImplEs.cons ?_ ?_
        · exact ImplE.cstr
        refine ImplEs.cons ?_ ?_
        · exact ImplE.cstr
        refine ImplEs.cons ?_ ?_
        · exact ImplE.cstr
        refine ImplEs.cons ?_ ?_
        · exact ImplE.cstr
        exact ImplEs.nil
      exact ImplA.name (i := 1) rfl rfl
    refine ImplS.cons ?_ ?_
    · refine ImplS1.swapped (names := ["entries", "record", "answers"]) ?_ rfl ?_
      · refine ImplE.tuple ?_
        refine ImplEs.cons ?_ ?_
        · refine ImplE.list ?_
          exact ImplEs.nil
        refine ImplEs.cons ?_ ?_
        · refine ImplE.list ?_
          exact ImplEs.nil
        refine ImplEs.cons ?_ ?_
        · refine ImplE.listMut ?_
          exact ImplEs.nil
        exact ImplEs.nil
      refine ImplN.cons (i := 5) rfl rfl ?_
      refine ImplN.cons (i := 4) rfl rfl ?_
      refine ImplN.cons (i := 3) rfl rfl ?_
      exact ImplN.nil
    refine ImplS.cons ?_ ?_
    · refine ImplS1.for (size := sizeL) (gt := goesT) ?_ ?_ ?_
      · refine ImplI.list ?_
        refine ImplE.bin ?_ ?_ add_ok
        · refine ImplE.list ?_
          refine ImplEs.cons ?_ ?_
          · exact ImplE.cint
          refine ImplEs.cons ?_ ?_
          · exact ImplE.cint
          refine ImplEs.cons ?_ ?_
          · exact ImplE.cint
          refine ImplEs.cons ?_ ?_
          · exact ImplE.cint
          refine ImplEs.cons ?_ ?_
          · exact ImplE.cint
          refine ImplEs.cons ?_ ?_
          · exact ImplE.cint
          refine ImplEs.cons ?_ ?_
          · exact ImplE.cint
          refine ImplEs.cons ?_ ?_
          · exact ImplE.cint
          exact ImplEs.nil
        exact ImplE.name (i := 0) rfl (by decide +kernel)
      · exact ImplA.name (i := 2) rfl rfl
      refine ImplS.cons ?_ ?_
      · refine ImplS1.swapped (names := ["p", "more"]) ?_ rfl ?_
        · refine ImplE.tuple ?_
          refine ImplEs.cons ?_ ?_
          · refine ImplE.bin ?_ ?_ mod_ok
            · refine ImplE.bin ?_ ?_ div_ok
              · exact ImplE.name (i := 2) rfl (by decide +kernel)
              exact ImplE.cint
            exact ImplE.cint
          refine ImplEs.cons ?_ ?_
          · refine ImplE.bin ?_ ?_ div_ok
            · exact ImplE.name (i := 2) rfl (by decide +kernel)
            exact ImplE.cint
          exact ImplEs.nil
        refine ImplN.cons (i := 9) rfl rfl ?_
        refine ImplN.cons (i := 8) rfl rfl ?_
        exact ImplN.nil
      refine ImplS.cons ?_ ?_
      · refine ImplS1.ite ?_ ?_ ?_
        · refine ImplT.cmp ?_ ?_ eq_ok
          · refine ImplE.bin ?_ ?_ mod_ok
            · exact ImplE.name (i := 2) rfl (by decide +kernel)
            exact ImplE.cint
          exact ImplE.cint
        · refine ImplS.cons ?_ ?_
          · refine ImplS1.assign ?_ ?_
            · refine ImplE.listMut ?_
              refine ImplEs.cons ?_ ?_
              · refine ImplE.item ?_ ?_
                · refine ImplE.list ?_
                  refine ImplEs.cons ?_ ?_
                  · exact ImplE.cnone
                  refine ImplEs.cons ?_ ?_
                  · exact ImplE.cstr
                  refine ImplEs.cons ?_ ?_
                  · exact ImplE.cstr
                  refine ImplEs.cons ?_ ?_
                  · exact ImplE.cstr
                  exact ImplEs.nil
                refine ImplE.bin ?_ ?_ mod_ok
                · exact ImplE.name (i := 9) rfl (by decide +kernel)
                exact ImplE.cint
              refine ImplEs.cons ?_ ?_
              · exact ImplE.name (i := 8) rfl (by decide +kernel)
              refine ImplEs.cons ?_ ?_
              · refine ImplE.item ?_ ?_
                · refine ImplE.list ?_
                  refine ImplEs.cons ?_ ?_
                  · exact ImplE.cnone
                  refine ImplEs.cons ?_ ?_
                  · exact ImplE.cstr
                  refine ImplEs.cons ?_ ?_
                  · exact ImplE.cstr
                  exact ImplEs.nil
                refine ImplE.bin ?_ ?_ mod_ok
                · exact ImplE.name (i := 9) rfl (by decide +kernel)
                exact ImplE.cint
              exact ImplEs.nil
            exact ImplA.name (i := 7) rfl rfl
          refine ImplS.cons ?_ ?_
          · refine ImplS1.expr ?_
            refine ImplE.lmeth PySem.F.slot_list_extend rfl ?_ ?_ extend_ok
            · exact ImplE.name (i := 7) rfl (by decide +kernel)
            refine ImplEs.cons ?_ ?_
            · refine ImplE.list ?_
              refine ImplEs.cons ?_ ?_
              · refine ImplE.item ?_ ?_
                · refine ImplE.list ?_
                  refine ImplEs.cons ?_ ?_
                  · exact ImplE.cnone
                  refine ImplEs.cons ?_ ?_
                  · exact ImplE.cbytes
                  refine ImplEs.cons ?_ ?_
                  · exact ImplE.cbytes
                  exact ImplEs.nil
                refine ImplE.bin ?_ ?_ mod_ok
                · refine ImplE.bin ?_ ?_ div_ok
                  · exact ImplE.name (i := 9) rfl (by decide +kernel)
                  exact ImplE.cint
                exact ImplE.cint
              refine ImplEs.cons ?_ ?_
              · refine ImplE.item ?_ ?_
                · refine ImplE.list ?_
                  refine ImplEs.cons ?_ ?_
                  · exact ImplE.cnone
                  refine ImplEs.cons ?_ ?_
                  · exact ImplE.cstr
                  refine ImplEs.cons ?_ ?_
                  · exact ImplE.cstr
                  exact ImplEs.nil
                refine ImplE.bin ?_ ?_ mod_ok
                · refine ImplE.bin ?_ ?_ div_ok
                  · exact ImplE.name (i := 9) rfl (by decide +kernel)
                  exact ImplE.cint
                exact ImplE.cint
              exact ImplEs.nil
            exact ImplEs.nil
          refine ImplS.cons ?_ ?_
          · refine ImplS1.assign ?_ ?_
            · refine ImplE.callFn G rfl (g_law_entry G) r_law_entry ?_ (k_law_entry G hB)
              refine ImplEs.cons ?_ ?_
              · exact ImplE.name (i := 7) rfl (by decide +kernel)
              refine ImplEs.cons ?_ ?_
              · refine ImplE.item ?_ ?_
                · exact ImplE.name (i := 1) rfl (by decide +kernel)
                exact ImplE.name (i := 8) rfl (by decide +kernel)
              exact ImplEs.nil
            refine ImplA.tuple ?_
            refine ImplAs.cons ?_ ?_
            · exact ImplA.name (i := 10) rfl rfl
            refine ImplAs.cons ?_ ?_
            · exact ImplA.name (i := 11) rfl rfl
            exact ImplAs.nil
          refine ImplS.cons ?_ ?_
          · refine ImplS1.expr ?_
            refine ImplE.lmeth PySem.F.slot_list_extend rfl ?_ ?_ extend_ok
            · exact ImplE.name (i := 5) rfl (by decide +kernel)
            refine ImplEs.cons ?_ ?_
            · exact ImplE.name (i := 11) rfl (by decide +kernel)
            exact ImplEs.nil
          refine ImplS.cons ?_ ?_
          · refine ImplS1.swapped (names := ["entries", "record"]) ?_ rfl ?_
            · refine ImplE.tuple ?_
              refine ImplEs.cons ?_ ?_
              · refine ImplE.bin ?_ ?_ add_ok
                · refine ImplE.slice ?_ ?_ ?_ ?_
                  · exact ImplE.name (i := 3) rfl (by decide +kernel)
                  · refine ImplP.some ?_
                    refine ImplE.neg ?_
                    exact ImplE.cint
                  · exact ImplP.none
                  exact ImplP.none
                refine ImplE.list ?_
                refine ImplEs.cons ?_ ?_
                · exact ImplE.name (i := 10) rfl (by decide +kernel)
                exact ImplEs.nil
              refine ImplEs.cons ?_ ?_
              · refine ImplE.bin ?_ ?_ add_ok
                · refine ImplE.slice ?_ ?_ ?_ ?_
                  · exact ImplE.name (i := 4) rfl (by decide +kernel)
                  · refine ImplP.some ?_
                    refine ImplE.neg ?_
                    exact ImplE.cint
                  · exact ImplP.none
                  exact ImplP.none
                refine ImplE.list ?_
                refine ImplEs.cons ?_ ?_
                · exact ImplE.name (i := 7) rfl (by decide +kernel)
                exact ImplEs.nil
              exact ImplEs.nil
            refine ImplN.cons (i := 4) rfl rfl ?_
            refine ImplN.cons (i := 3) rfl rfl ?_
            exact ImplN.nil
          exact ImplS.nil
        refine ImplS.cons ?_ ?_
        · refine ImplS1.ite ?_ ?_ ?_
          · refine ImplT.cmp ?_ ?_ eq_ok
            · refine ImplE.bin ?_ ?_ mod_ok
              · exact ImplE.name (i := 2) rfl (by decide +kernel)
              exact ImplE.cint
            exact ImplE.cint
          · refine ImplS.cons ?_ ?_
            · refine ImplS1.expr ?_
              refine ImplE.lmeth PySem.F.slot_list_append rfl ?_ ?_ append_ok
              · exact ImplE.name (i := 5) rfl (by decide +kernel)
              refine ImplEs.cons ?_ ?_
              · refine ImplE.meth G cls m_setPublicId ?_ ?_ (f_setPublicId G)
                · refine ImplE.item ?_ ?_
                  · exact ImplE.name (i := 3) rfl (by decide +kernel)
                  refine ImplE.bin ?_ ?_ mod_ok
                  · exact ImplE.name (i := 9) rfl (by decide +kernel)
                  refine ImplE.callB G rfl (g_len G hB) ?_ len_ok
                  refine ImplEs.cons ?_ ?_
                  · exact ImplE.name (i := 3) rfl (by decide +kernel)
                  exact ImplEs.nil
                refine ImplEs.cons ?_ ?_
                · refine ImplE.item ?_ ?_
                  · exact ImplE.name (i := 1) rfl (by decide +kernel)
                  exact ImplE.name (i := 8) rfl (by decide +kernel)
                exact ImplEs.nil
              exact ImplEs.nil
            refine ImplS.cons ?_ ?_
            · refine ImplS1.assign ?_ ?_
              · exact ImplE.name (i := 8) rfl (by decide +kernel)
              refine ImplA.item ?_ ?_
              · refine ImplE.item ?_ ?_
                · exact ImplE.name (i := 4) rfl (by decide +kernel)
                refine ImplE.bin ?_ ?_ mod_ok
                · exact ImplE.name (i := 9) rfl (by decide +kernel)
                refine ImplE.callB G rfl (g_len G hB) ?_ len_ok
                refine ImplEs.cons ?_ ?_
                · exact ImplE.name (i := 3) rfl (by decide +kernel)
                exact ImplEs.nil
              exact ImplE.cint
            exact ImplS.nil
          refine ImplS.cons ?_ ?_
          · refine ImplS1.swapped (names := ["asked", "due"]) ?_ rfl ?_
            · refine ImplE.tuple ?_
              refine ImplEs.cons ?_ ?_
              · refine e_new G rfl ?_
                refine ImplEs.cons ?_ ?_
                · exact ImplE.cstr
                exact ImplEs.nil
              refine ImplEs.cons ?_ ?_
              · refine ImplE.listMut ?_
                refine ImplEs.cons ?_ ?_
                · exact ImplE.cstr
                refine ImplEs.cons ?_ ?_
                · exact ImplE.name (i := 8) rfl (by decide +kernel)
                refine ImplEs.cons ?_ ?_
                · refine ImplE.item ?_ ?_
                  · refine ImplE.list ?_
                    refine ImplEs.cons ?_ ?_
                    · exact ImplE.cnone
                    refine ImplEs.cons ?_ ?_
                    · exact ImplE.cstr
                    refine ImplEs.cons ?_ ?_
                    · exact ImplE.cstr
                    exact ImplEs.nil
                  refine ImplE.bin ?_ ?_ mod_ok
                  · exact ImplE.name (i := 9) rfl (by decide +kernel)
                  exact ImplE.cint
                refine ImplEs.cons ?_ ?_
                · exact ImplE.cnone
                refine ImplEs.cons ?_ ?_
                · exact ImplE.cnone
                exact ImplEs.nil
              exact ImplEs.nil
            refine ImplN.cons (i := 7) rfl rfl ?_
            refine ImplN.cons (i := 15) rfl rfl ?_
            exact ImplN.nil
          refine ImplS.cons ?_ ?_
          · refine ImplS1.ite ?_ ?_ ?_
            · refine ImplT.cmp ?_ ?_ isNot_ok
              · refine ImplE.item ?_ ?_
                · exact ImplE.name (i := 7) rfl (by decide +kernel)
                exact ImplE.cint
              exact ImplE.cnone
            · refine ImplS.cons ?_ ?_
              · refine ImplS1.expr ?_
                refine ImplE.lmeth PySem.F.slot_list_append rfl ?_ ?_ append_ok
                · exact ImplE.name (i := 5) rfl (by decide +kernel)
                refine ImplEs.cons ?_ ?_
                · refine ImplE.meth G cls m_setEncoding ?_ ?_ (f_setEncoding G)
                  · exact ImplE.name (i := 15) rfl (by decide +kernel)
                  refine ImplEs.cons ?_ ?_
                  · refine ImplE.item ?_ ?_
                    · exact ImplE.name (i := 7) rfl (by decide +kernel)
                    exact ImplE.cint
                  exact ImplEs.nil
                exact ImplEs.nil
              exact ImplS.nil
            exact ImplS.nil
          refine ImplS.cons ?_ ?_
          · refine ImplS1.ite ?_ ?_ ?_
            · refine ImplT.cmp ?_ ?_ gt_ok
              · exact ImplE.name (i := 8) rfl (by decide +kernel)
              exact ImplE.cint
            · refine ImplS.cons ?_ ?_
              · refine ImplS1.expr ?_
                refine ImplE.lmeth PySem.F.slot_list_append rfl ?_ ?_ append_ok
                · exact ImplE.name (i := 5) rfl (by decide +kernel)
                refine ImplEs.cons ?_ ?_
                · refine ImplE.meth G cls m_setPublicId ?_ ?_ (f_setPublicId G)
                  · exact ImplE.name (i := 15) rfl (by decide +kernel)
                  refine ImplEs.cons ?_ ?_
                  · refine ImplE.item ?_ ?_
                    · exact ImplE.name (i := 1) rfl (by decide +kernel)
                    exact ImplE.name (i := 8) rfl (by decide +kernel)
                  exact ImplEs.nil
                exact ImplEs.nil
              exact ImplS.nil
            exact ImplS.nil
          refine ImplS.cons ?_ ?_
          · refine ImplS1.ite ?_ ?_ ?_
            · refine ImplT.cmp ?_ ?_ ne_ok
              · refine ImplE.callFn G rfl (g_law_told G) r_law_told ?_ (k_law_told G hB)
                refine ImplEs.cons ?_ ?_
                · exact ImplE.name (i := 15) rfl (by decide +kernel)
                exact ImplEs.nil
              refine ImplE.list ?_
              refine ImplEs.cons ?_ ?_
              · exact ImplE.cstr
              refine ImplEs.cons ?_ ?_
              · refine ImplE.item ?_ ?_
                · exact ImplE.name (i := 1) rfl (by decide +kernel)
                exact ImplE.name (i := 8) rfl (by decide +kernel)
              refine ImplEs.cons ?_ ?_
              · refine ImplE.item ?_ ?_
                · exact ImplE.name (i := 7) rfl (by decide +kernel)
                exact ImplE.cint
              refine ImplEs.cons ?_ ?_
              · exact ImplE.cnone
              refine ImplEs.cons ?_ ?_
              · exact ImplE.cnone
              exact ImplEs.nil
            · refine ImplS.cons ?_ ?_
              · refine ImplS1.ret ?_
                exact ImplE.cbool
              exact ImplS.nil
            exact ImplS.nil
          refine ImplS.cons ?_ ?_
          · refine ImplS1.expr ?_
            refine ImplE.lmeth PySem.F.slot_list_extend rfl ?_ ?_ extend_ok
            · exact ImplE.name (i := 5) rfl (by decide +kernel)
            refine ImplEs.cons ?_ ?_
            · refine ImplE.callFn G rfl (g_law_answered G) r_law_answered ?_ (k_law_answered G hB)
              refine ImplEs.cons ?_ ?_
              · exact ImplE.name (i := 3) rfl (by decide +kernel)
              refine ImplEs.cons ?_ ?_
              · exact ImplE.name (i := 15) rfl (by decide +kernel)
              refine ImplEs.cons ?_ ?_
              · refine ImplE.ifexp ?_ ?_ ?_
                · refine ImplT.cmp ?_ ?_ eq_ok
                  · refine ImplE.bin ?_ ?_ mod_ok
                    · exact ImplE.name (i := 9) rfl (by decide +kernel)
                    exact ImplE.cint
                  exact ImplE.cint
                · refine ImplE.list ?_
                  refine ImplEs.cons ?_ ?_
                  · exact ImplE.cint
                  refine ImplEs.cons ?_ ?_
                  · exact ImplE.cint
                  refine ImplEs.cons ?_ ?_
                  · exact ImplE.cint
                  refine ImplEs.cons ?_ ?_
                  · exact ImplE.cint
                  exact ImplEs.nil
                refine ImplE.list ?_
                refine ImplEs.cons ?_ ?_
                · exact ImplE.cint
                refine ImplEs.cons ?_ ?_
                · exact ImplE.cint
                refine ImplEs.cons ?_ ?_
                · exact ImplE.cint
                refine ImplEs.cons ?_ ?_
                · exact ImplE.cint
                exact ImplEs.nil
              exact ImplEs.nil
            exact ImplEs.nil
          refine ImplS.table (i := 12) (j := 13) (q := 8) G rfl rfl rfl rfl rfl (by decide) (by decide) (by decide) ?_ (rev_at (r := 4) (by decide)) ?_ ?_
          · refine ImplE.slice ?_ ?_ ?_ ?_
            · exact ImplE.name (i := 4) rfl (by decide +kernel)
            · exact ImplP.none
            · exact ImplP.none
            refine ImplP.some ?_
            refine ImplE.neg ?_
            exact ImplE.cint
          · refine ImplS.cons ?_ ?_
            · refine ImplS1.assign ?_ ?_
              · refine ImplE.listMut ?_
                refine ImplEs.cons ?_ ?_
                · refine ImplE.item ?_ ?_
                  · exact ImplE.name (i := 13) rfl (by decide +kernel)
                  exact ImplE.cint
                refine ImplEs.cons ?_ ?_
                · exact ImplE.name (i := 8) rfl (by decide +kernel)
                refine ImplEs.cons ?_ ?_
                · refine ImplE.ifexp ?_ ?_ ?_
                  · refine ImplT.cmp ?_ ?_ is_ok
                    · refine ImplE.item ?_ ?_
                      · exact ImplE.name (i := 7) rfl (by decide +kernel)
                      exact ImplE.cint
                    exact ImplE.cnone
                  · refine ImplE.item ?_ ?_
                    · exact ImplE.name (i := 13) rfl (by decide +kernel)
                    exact ImplE.cint
                  refine ImplE.item ?_ ?_
                  · exact ImplE.name (i := 7) rfl (by decide +kernel)
                  exact ImplE.cint
                refine ImplEs.cons ?_ ?_
                · refine ImplE.item ?_ ?_
                  · exact ImplE.name (i := 13) rfl (by decide +kernel)
                  exact ImplE.cint
                refine ImplEs.cons ?_ ?_
                · refine ImplE.item ?_ ?_
                  · exact ImplE.name (i := 13) rfl (by decide +kernel)
                  exact ImplE.cint
                exact ImplEs.nil
              exact ImplA.name (i := 7) rfl rfl
            exact ImplS.nil
          refine ImplS.cons ?_ ?_
          · refine ImplS1.for (size := sizeL) (gt := goesT) ?_ ?_ ?_
            · refine ImplI.list ?_
              refine ImplE.list ?_
              refine ImplEs.cons ?_ ?_
              · refine ImplE.callFn G rfl (g_law_told G) r_law_told ?_ (k_law_told G hB)
                refine ImplEs.cons ?_ ?_
                · exact ImplE.name (i := 15) rfl (by decide +kernel)
                exact ImplEs.nil
              refine ImplEs.cons ?_ ?_
              · refine ImplE.callFn G rfl (g_law_told G) r_law_told ?_ (k_law_told G hB)
                refine ImplEs.cons ?_ ?_
                · exact ImplE.name (i := 15) rfl (by decide +kernel)
                exact ImplEs.nil
              exact ImplEs.nil
            · exact ImplA.name (i := 14) rfl rfl
            refine ImplS.cons ?_ ?_
            · refine ImplS1.ite ?_ ?_ ?_
              · refine ImplT.cmp ?_ ?_ ne_ok
                · exact ImplE.name (i := 14) rfl (by decide +kernel)
                refine ImplE.bin ?_ ?_ add_ok
                · refine ImplE.list ?_
                  refine ImplEs.cons ?_ ?_
                  · refine ImplE.item ?_ ?_
                    · exact ImplE.name (i := 7) rfl (by decide +kernel)
                    exact ImplE.cint
                  refine ImplEs.cons ?_ ?_
                  · refine ImplE.item ?_ ?_
                    · exact ImplE.name (i := 1) rfl (by decide +kernel)
                    exact ImplE.name (i := 8) rfl (by decide +kernel)
                  exact ImplEs.nil
                refine ImplE.slice ?_ ?_ ?_ ?_
                · exact ImplE.name (i := 7) rfl (by decide +kernel)
                · refine ImplP.some ?_
                  exact ImplE.cint
                · exact ImplP.none
                exact ImplP.none
              · refine ImplS.cons ?_ ?_
                · refine ImplS1.ret ?_
                  exact ImplE.cbool
                exact ImplS.nil
              exact ImplS.nil
            exact ImplS.nil
          refine ImplS.cons ?_ ?_
          · refine ImplS1.ite ?_ ?_ ?_
            · refine ImplT.cmp ?_ ?_ eq_ok
              · refine ImplE.bin ?_ ?_ mod_ok
                · exact ImplE.name (i := 2) rfl (by decide +kernel)
                exact ImplE.cint
              exact ImplE.cint
            · refine ImplS.cons ?_ ?_
              · refine ImplS1.swapped (names := ["entries", "record"]) ?_ rfl ?_
                · refine ImplE.tuple ?_
                  refine ImplEs.cons ?_ ?_
                  · refine ImplE.bin ?_ ?_ add_ok
                    · refine ImplE.list ?_
                      refine ImplEs.cons ?_ ?_
                      · exact ImplE.name (i := 15) rfl (by decide +kernel)
                      exact ImplEs.nil
                    refine ImplE.slice ?_ ?_ ?_ ?_
                    · exact ImplE.name (i := 3) rfl (by decide +kernel)
                    · exact ImplP.none
                    · refine ImplP.some ?_
                      exact ImplE.cint
                    exact ImplP.none
                  refine ImplEs.cons ?_ ?_
                  · refine ImplE.bin ?_ ?_ add_ok
                    · refine ImplE.list ?_
                      refine ImplEs.cons ?_ ?_
                      · exact ImplE.name (i := 7) rfl (by decide +kernel)
                      exact ImplEs.nil
                    refine ImplE.slice ?_ ?_ ?_ ?_
                    · exact ImplE.name (i := 4) rfl (by decide +kernel)
                    · exact ImplP.none
                    · refine ImplP.some ?_
                      exact ImplE.cint
                    exact ImplP.none
                  exact ImplEs.nil
                refine ImplN.cons (i := 4) rfl rfl ?_
                refine ImplN.cons (i := 3) rfl rfl ?_
                exact ImplN.nil
              exact ImplS.nil
            exact ImplS.nil
          exact ImplS.nil
        exact ImplS.nil
      exact ImplS.nil
    refine ImplS.cons ?_ ?_
    · refine ImplS1.for (size := sizeZ) (gt := goesU) ?_ ?_ ?_
      · refine ImplI.zip G rfl (g_zip G hB) ?_
        refine ImplEs.cons ?_ ?_
        · exact ImplE.name (i := 3) rfl (by decide +kernel)
        refine ImplEs.cons ?_ ?_
        · exact ImplE.name (i := 4) rfl (by decide +kernel)
        exact ImplEs.nil
      · refine ImplA.tuple ?_
        refine ImplAs.cons ?_ ?_
        · exact ImplA.name (i := 6) rfl rfl
        refine ImplAs.cons ?_ ?_
        · exact ImplA.name (i := 7) rfl rfl
        exact ImplAs.nil
      refine ImplS.cons ?_ ?_
      · refine ImplS1.ite ?_ ?_ ?_
        · refine ImplT.cmp ?_ ?_ ne_ok
          · refine ImplE.callFn G rfl (g_law_told G) r_law_told ?_ (k_law_told G hB)
            refine ImplEs.cons ?_ ?_
            · exact ImplE.name (i := 6) rfl (by decide +kernel)
            exact ImplEs.nil
          refine ImplE.bin ?_ ?_ add_ok
          · refine ImplE.list ?_
            refine ImplEs.cons ?_ ?_
            · refine ImplE.item ?_ ?_
              · exact ImplE.name (i := 7) rfl (by decide +kernel)
              exact ImplE.cint
            refine ImplEs.cons ?_ ?_
            · refine ImplE.item ?_ ?_
              · exact ImplE.name (i := 1) rfl (by decide +kernel)
              refine ImplE.item ?_ ?_
              · exact ImplE.name (i := 7) rfl (by decide +kernel)
              exact ImplE.cint
            exact ImplEs.nil
          refine ImplE.slice ?_ ?_ ?_ ?_
          · exact ImplE.name (i := 7) rfl (by decide +kernel)
          · refine ImplP.some ?_
            exact ImplE.cint
          · exact ImplP.none
          exact ImplP.none
        · refine ImplS.cons ?_ ?_
          · refine ImplS1.ret ?_
            exact ImplE.cbool
          exact ImplS.nil
        exact ImplS.nil
      exact ImplS.nil
    refine ImplS.cons ?_ ?_
    · refine ImplS1.ret ?_
      refine ImplE.cmp ?_ ?_ eq_ok
      · exact ImplE.name (i := 5) rfl (by decide +kernel)
      refine ImplE.bin ?_ ?_ mul_ok
      · refine ImplE.list ?_
        refine ImplEs.cons ?_ ?_
        · exact ImplE.cnone
        exact ImplEs.nil
      refine ImplE.callB G rfl (g_len G hB) ?_ len_ok
      refine ImplEs.cons ?_ ?_
      · exact ImplE.name (i := 5) rfl (by decide +kernel)
      exact ImplEs.nil
    exact ImplS.nil

  refine ⟨.inl ⟨.bool true, .bool true, [], rfl, raisesW_false ?_, .bool true, ?_, fun _ => ⟨List.nodup_nil, fun _ h => by cases h⟩⟩, k1, k3, k2.trans ‹_›⟩
  · wrow_none_raised
  · first | wrow_post | kc_post)
