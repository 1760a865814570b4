import PyProof.Rows.All
import Wide.All
import OpenK.AllK
import Wide.FinOn
import PySem.Challenge.RW_dn0304_05
open PySem PySem.W PyProof.Rows
set_option Elab.async false
set_option maxRecDepth 100000
set_option linter.unusedVariables false
namespace Mine


inductive AV where
  | unb
  | none
  | bool (b : Bool)
  | int (i : Int)
  | str (s : Str)
  | bytes (b : Array UInt8)
  | val (v : Value)
  | ins (k : Nat)
  | lob (k : Nat)
  | lst (xs : List AV)
  | tup (xs : List AV)
  | lsb (xs : List AV)
inductive Fd where
  | sys | pub | enc | byt | chr
structure Ins where
  sys : AV
  pub : AV
  enc : AV
  byt : AV
  chr : AV
noncomputable def Ins.get (i : Ins) : Fd → AV
  | .sys => i.sys
  | .pub => i.pub
  | .enc => i.enc
  | .byt => i.byt
  | .chr => i.chr
noncomputable def Ins.put (i : Ins) (v : AV) : Fd → Ins
  | .sys => { i with sys := v }
  | .pub => { i with pub := v }
  | .enc => { i with enc := v }
  | .byt => { i with byt := v }
  | .chr => { i with chr := v }
abbrev LH := List (List (Nat × List AV))
structure AS where
  loc : List AV
  ins : List Ins
  lst : LH
  nl : Nat
noncomputable def lookL (k : Nat) : List (Nat × List AV) → Option (List AV)
  | [] => .none
  | (j, xs) :: r => if k = j then some xs else lookL k r
noncomputable def getL1 (k : Nat) : LH → Option (List AV)
  | [] => .none
  | g :: r => match lookL k g with | some xs => some xs | .none => getL1 k r
noncomputable def putSeg (k : Nat) (ys : List AV) : List (Nat × List AV) → List (Nat × List AV)
  | [] => []
  | (j, xs) :: r => if k = j then (j, ys) :: r else (j, xs) :: putSeg k ys r
noncomputable def putL1 (k : Nat) (ys : List AV) : LH → LH
  | [] => []
  | g :: r => match lookL k g with | some _ => putSeg k ys g :: r | .none => g :: putL1 k ys r
noncomputable def pushL1 (k : Nat) (xs : List AV) : LH → LH
  | [] => [[(k, xs)]]
  | g :: r => ((k, xs) :: g) :: r

inductive Role where
  | oth
  | ins (k : Nat)
  | dct (k : Nat)
  | lob (k : Nat)
  | frz (o : Obj)
structure Wd where
  role : Addr → Role
  ia : Nat → Addr
  da : Nat → Addr
  la : Nat → Addr
  ni : Nat
  nl : Nat
noncomputable def Role.mut : Role → Prop
  | .ins _ | .dct _ | .lob _ => True
  | _ => False
noncomputable def Wd.Mut (W : Wd) (a : Addr) : Prop := (W.role a).mut
abbrev tupOf (its : Array Value) (n : Nat) : Obj := { cls := .type "tuple", data := .seq its n }
mutual
inductive VR (W : Wd) : Value → AV → Prop
  | none : VR W .none .none
  | bool (b : Bool) : VR W (.bool b) (.bool b)
  | int (i : Int) (t : Tok) : VR W (.int i t) (.int i)
  | str (x : Str) (t : Tok) : VR W (.str x t) (.str x)
  | bytes (x : Array UInt8) (t : Tok) : VR W (.bytes x t) (.bytes x)
  | val (v : Value) (h : handedIn v = true) : VR W v (.val v)
  | ins (k : Nat) : k < W.ni → VR W (.ref (W.ia k)) (.ins k)
  | lob (k : Nat) : k < W.nl → VR W (.ref (W.la k)) (.lob k)
  | lst {a : Addr} {vs : List Value} {n : Nat} {xs : List AV} : W.role a = .frz (listOf vs.toArray n) → VRs W vs xs → VR W (.ref a) (.lst xs)
  | tup {a : Addr} {o : Obj} {vs : List Value} {n : Nat} {xs : List AV} : W.role a = .frz o → o.cls = .type "tuple" → o.data = .seq vs.toArray n → VRs W vs xs → VR W (.ref a) (.tup xs)
  | lsb {a : Addr} {o : Obj} {vs : List Value} {n : Nat} {xs : List AV} : W.role a = .frz o → o.cls = .type "list" → o.data = .seq vs.toArray n → VRs W vs xs → VR W (.ref a) (.lsb xs)
inductive VRs (W : Wd) : List Value → List AV → Prop
  | nil : VRs W [] []
  | cons {v : Value} {vs : List Value} {x : AV} {xs : List AV} : VR W v x → VRs W vs xs → VRs W (v :: vs) (x :: xs)
end

theorem VR.handed {W : Wd} {v : Value} {x : AV} (h : VR W v x) : handedIn v = true := by
  cases h <;> first | rfl | assumption
theorem VR.inv_none {W : Wd} {v : Value} (h : VR W v .none) : v = .none := by cases h; rfl
theorem VR.inv_bool {W : Wd} {v : Value} {b : Bool} (h : VR W v (.bool b)) : v = .bool b := by cases h; rfl
theorem VR.inv_int {W : Wd} {v : Value} {i : Int} (h : VR W v (.int i)) : ∃ t, v = .int i t := by cases h; exact ⟨_, rfl⟩
theorem VR.inv_str {W : Wd} {v : Value} {i : Str} (h : VR W v (.str i)) : ∃ t, v = .str i t := by cases h; exact ⟨_, rfl⟩
theorem VR.inv_ins {W : Wd} {v : Value} {k : Nat} (h : VR W v (.ins k)) : v = .ref (W.ia k) ∧ k < W.ni := by cases h; exact ⟨rfl, by assumption⟩
theorem VR.inv_lob {W : Wd} {v : Value} {k : Nat} (h : VR W v (.lob k)) : v = .ref (W.la k) ∧ k < W.nl := by cases h; exact ⟨rfl, by assumption⟩
theorem VRs.length {W : Wd} {vs : List Value} {xs : List AV} (h : VRs W vs xs) : vs.length = xs.length := by
  induction vs generalizing xs with
  | nil => cases h; rfl
  | cons v vs ih => cases h with | cons _ r => rw [List.length_cons, List.length_cons, ih r]
theorem VRs.append {W : Wd} {vs ws : List Value} {xs ys : List AV} (h : VRs W vs xs) (k : VRs W ws ys) : VRs W (vs ++ ws) (xs ++ ys) := by
  induction vs generalizing xs with
  | nil => cases h; exact k
  | cons v vs ih => cases h with | cons a r => exact .cons a (ih r)
theorem VRs.get {W : Wd} {vs : List Value} {xs : List AV} (h : VRs W vs xs) {i : Nat} {x : AV} (e : xs[i]? = some x) : ∃ v, vs[i]? = some v ∧ VR W v x := by
  induction vs generalizing xs i with
  | nil => cases h; simp at e
  | cons v vs ih =>
    cases h with
    | cons a r =>
      cases i with
      | zero => simp at e; subst e; exact ⟨v, rfl, a⟩
      | succ i => simp at e; exact ih r e
theorem VRs.getv {W : Wd} {vs : List Value} {xs : List AV} (h : VRs W vs xs) {i : Nat} {v : Value} (e : vs[i]? = some v) : ∃ x, xs[i]? = some x ∧ VR W v x := by
  induction vs generalizing xs i with
  | nil => simp at e
  | cons w vs ih =>
    cases h with
    | cons a r =>
      cases i with
      | zero => simp at e; subst e; exact ⟨_, rfl, a⟩
      | succ i => simp at e; exact ih r e
theorem VRs.set {W : Wd} {v : Value} {x : AV} (hv : VR W v x) : ∀ {vs : List Value} {xs : List AV} (n : Nat), VRs W vs xs → VRs W (vs.set n v) (xs.set n x)
  | _, _, _, .nil => .nil
  | _, _, 0, .cons _ r => .cons hv r
  | _, _, n + 1, .cons a r => .cons a (VRs.set hv n r)
theorem VRs.reverse {W : Wd} : ∀ {vs : List Value} {xs : List AV}, VRs W vs xs → VRs W vs.reverse xs.reverse
  | _, _, .nil => .nil
  | _, _, .cons a r => by rw [List.reverse_cons, List.reverse_cons]; exact (VRs.reverse r).append (.cons a .nil)
theorem VRs.one {W : Wd} {v : Value} {x : AV} (hv : VR W v x) : VRs W [v] [x] := .cons hv .nil
structure Le (W W' : Wd) : Prop where
  ni : W.ni ≤ W'.ni
  nl : W.nl ≤ W'.nl
  ia : ∀ k, k < W.ni → W'.ia k = W.ia k
  da : ∀ k, k < W.ni → W'.da k = W.da k
  la : ∀ k, k < W.nl → W'.la k = W.la k
  frz : ∀ a o, W.role a = .frz o → W'.role a = .frz o
theorem Le.refl (W : Wd) : Le W W := ⟨Nat.le_refl _, Nat.le_refl _, fun _ _ => rfl, fun _ _ => rfl, fun _ _ => rfl, fun _ _ h => h⟩
theorem Le.trans {W W' W'' : Wd} (x : Le W W') (y : Le W' W'') : Le W W'' where
  ni := Nat.le_trans x.ni y.ni
  nl := Nat.le_trans x.nl y.nl
  ia := fun k h => (y.ia k (Nat.lt_of_lt_of_le h x.ni)).trans (x.ia k h)
  da := fun k h => (y.da k (Nat.lt_of_lt_of_le h x.ni)).trans (x.da k h)
  la := fun k h => (y.la k (Nat.lt_of_lt_of_le h x.nl)).trans (x.la k h)
  frz := fun a o h => y.frz a o (x.frz a o h)
mutual
theorem VR.mono {W W' : Wd} (L : Le W W') : ∀ {v : Value} {x : AV}, VR W v x → VR W' v x
  | _, _, .none => .none
  | _, _, .bool b => .bool b
  | _, _, .int i t => .int i t
  | _, _, .str x t => .str x t
  | _, _, .bytes x t => .bytes x t
  | _, _, .val v h => .val v h
  | _, _, .ins k h => by rw [← L.ia k h]; exact .ins k (Nat.lt_of_lt_of_le h L.ni)
  | _, _, .lob k h => by rw [← L.la k h]; exact .lob k (Nat.lt_of_lt_of_le h L.nl)
  | _, _, .lst h r => .lst (L.frz _ _ h) (VRs.mono L r)
  | _, _, .tup h h1 h2 r => .tup (L.frz _ _ h) h1 h2 (VRs.mono L r)
  | _, _, .lsb h h1 h2 r => .lsb (L.frz _ _ h) h1 h2 (VRs.mono L r)
theorem VRs.mono {W W' : Wd} (L : Le W W') : ∀ {vs : List Value} {xs : List AV}, VRs W vs xs → VRs W' vs xs
  | _, _, .nil => .nil
  | _, _, .cons a r => .cons (VR.mono L a) (VRs.mono L r)
end

noncomputable def fkey : Fd → Str
  | .sys => Str.ofString "_InputSource__system_id"
  | .pub => Str.ofString "_InputSource__public_id"
  | .enc => Str.ofString "_InputSource__encoding"
  | .byt => Str.ofString "_InputSource__bytefile"
  | .chr => Str.ofString "_InputSource__charfile"
inductive FieldsAre (W : Wd) : List DictEntry → Ins → Prop
  | mk {h1 h2 h3 h4 h5 : Int} {t1 t2 t3 t4 t5 : Tok} {v1 v2 v3 v4 v5 : Value} {i : Ins} :
      VR W v1 i.sys → VR W v2 i.pub → VR W v3 i.enc → VR W v4 i.byt → VR W v5 i.chr →
      FieldsAre W [⟨h1, .str (fkey .sys) t1, v1⟩, ⟨h2, .str (fkey .pub) t2, v2⟩, ⟨h3, .str (fkey .enc) t3, v3⟩, ⟨h4, .str (fkey .byt) t4, v4⟩, ⟨h5, .str (fkey .chr) t5, v5⟩] i
theorem FieldsAre.mono {W W' : Wd} (L : Le W W') {es : List DictEntry} {i : Ins} (h : FieldsAre W es i) : FieldsAre W' es i := by
  cases h with
  | mk a b c d e => exact .mk (a.mono L) (b.mono L) (c.mono L) (d.mono L) (e.mono L)
theorem fkey_is (f g : Fd) : (fkey f == fkey g) = decide (f.ctorIdx = g.ctorIdx) := by
  cases f <;> cases g <;> decide +kernel
theorem FieldsAre.get {W : Wd} {es : List DictEntry} {i : Ins} (h : FieldsAre W es i) (f : Fd) : ∃ v, PySem.W.getL (fkey f) es = some (some v) ∧ VR W v (i.get f) := by
  cases h with
  | mk a b c d e =>
    cases f <;> simp only [PySem.W.getL, List.find?, Value.isStr, fkey_is]
    · exact ⟨_, rfl, a⟩
    · exact ⟨_, rfl, b⟩
    · exact ⟨_, rfl, c⟩
    · exact ⟨_, rfl, d⟩
    · exact ⟨_, rfl, e⟩
theorem FieldsAre.put {W : Wd} {es : List DictEntry} {i : Ins} (h : FieldsAre W es i) (f : Fd) {v : Value} {x : AV} (hv : VR W v x) (hsh : Int) (key : Value) :
    FieldsAre W (PySem.W.putL (fkey f) hsh key v es) (i.put x f) := by
  cases h with
  | mk a b c d e =>
    cases f <;> simp only [PySem.W.putL, Value.isStr, fkey_is]
    · exact .mk hv b c d e
    · exact .mk a hv c d e
    · exact .mk a b hv d e
    · exact .mk a b c hv e
    · exact .mk a b c d hv
theorem FieldsAre.len {W : Wd} {es : List DictEntry} {i : Ins} (h : FieldsAre W es i) : es.length = 5 := by cases h; rfl
end Mine

namespace Mine

structure Cx where
  prog : Program
  w : World
  K : Frag
  C : Addr
  h0 : Heap
  mg : Str → Option Value
  mb : Str → Option Value
structure HR (c : Cx) (W : Wd) (st : AS) (h : Heap) : Prop where
  keep : ∀ a o, c.h0.get? a = some o → h.get? a = some o
  mutA : ∀ a, W.Mut a → c.h0.get? a = .none
  lt : ∀ a, W.role a = .oth ∨ ∃ o, h.get? a = some o
  frz : ∀ a o, W.role a = .frz o → h.get? a = some o
  ni : W.ni = st.ins.length
  nl : W.nl = st.nl
  iaR : ∀ k, k < W.ni → W.role (W.ia k) = .ins k ∧ W.role (W.da k) = .dct k
  insA : ∀ k i, st.ins[k]? = some i → ∃ es n, h.get? (W.ia k) = some (instObj c.C (W.da k)) ∧ h.get? (W.da k) = some (dictOf es n) ∧ FieldsAre W es i
  lstA : ∀ g ∈ st.lst, ∀ p ∈ g, p.1 < W.nl ∧ W.role (W.la p.1) = .lob p.1 ∧ ∃ vs n, h.get? (W.la p.1) = some (listOf vs.toArray n) ∧ VRs W vs p.2
  nodup : (st.lst.flatten.map (·.1)).Nodup
structure Sx where
  sc : Scope
  vars : List Str
  wr : List Str
structure Pl where
  A : Around
  sx : Sx
  env : Env
  wc : List Addr
noncomputable def Pl.Own (p : Pl) (a : Addr) : Prop := a = p.env.locals ∨ a ∈ p.wc
structure FrV (c : Cx) (p : Pl) (W : Wd) (loc : List AV) (h : Heap) : Prop where
  ns : ∃ ml, h.Ns p.env.locals ml ∧ ∀ (i : Nat) (x : Str) (v : AV), p.sx.vars[i]? = some x → loc[i]? = some v → v ≠ .unb → p.env.kindOf x = some .local → ∃ val, ml x = some val ∧ VR W val v
  cl : ∀ (i : Nat) (x : Str) (v : AV), p.sx.vars[i]? = some x → loc[i]? = some v → v ≠ .unb → p.env.kindOf x = some .cell → ∃ val a, p.env.cells.lookup x = some a ∧ h.IsCell a (some val) ∧ VR W val v
  cells : ∀ x a, p.env.cells.lookup x = some a → ∃ v, h.IsCell a v
  hasCell : ∀ x, x ∈ p.sx.vars → p.env.kindOf x = some .cell → ∃ a, p.env.cells.lookup x = some a ∧ (x ∈ p.sx.wr → a ∈ p.wc)
  kinds : ∀ x, x ∈ p.sx.vars → p.env.kindOf x = some .local ∨ p.env.kindOf x = some .cell
  apart : p.env.cells.Pairwise fun x y => x.2 ≠ y.2
  wcIn : ∀ a ∈ p.wc, ∃ x, p.env.cells.lookup x = some a
  roleL : W.role p.env.locals = .oth
  roleC : ∀ x a, p.env.cells.lookup x = some a → W.role a = .oth ∧ a ≠ p.env.locals ∧ c.h0.get? a = .none
  lo : c.h0.get? p.env.locals = .none
  scope : p.env.scope = p.sx.sc
  kind : p.sx.sc.kind = .function
  globals : p.env.globals = mainGlobals
  builtins : p.env.builtins = builtinsNs
  nodup : p.sx.vars.Nodup
structure Inv (c : Cx) (p : Pl) (W : Wd) (st : AS) (s : Shared) : Prop where
  hr : HR c W st s.heap
  fr : FrV c p W st.loc s.heap
structure Ext (own : Addr → Prop) (W : Wd) (s : Shared) (W' : Wd) (s' : Shared) : Prop where
  le : Le W W'
  alive : ∀ a o, s.heap.get? a = some o → ∃ o', s'.heap.get? a = some o'
  oth : ∀ a o, s.heap.get? a = some o → W.role a = .oth → W'.role a = .oth
  kept : ∀ a o, ¬ W.Mut a → ¬ own a → s.heap.get? a = some o → s'.heap.get? a = some o
  gens : s'.gens = s.gens
  os : s'.os = s.os
theorem Role.cases_mut (r : Role) : r.mut ∨ r = .oth ∨ ∃ o, r = .frz o := by
  cases r <;> simp [Role.mut]
theorem Ext.unmut {own : Addr → Prop} {W W' : Wd} {s s' : Shared} (x : Ext own W s W' s') {a : Addr} {o : Obj} (ha : s.heap.get? a = some o) (hm : ¬ W.Mut a) : ¬ W'.Mut a := by
  rcases Role.cases_mut (W.role a) with h | h | ⟨o, h⟩
  · exact absurd h hm
  · unfold Wd.Mut; rw [x.oth a _ ha h]; simp [Role.mut]
  · unfold Wd.Mut; rw [x.le.frz a o h]; simp [Role.mut]
theorem Ext.refl (own : Addr → Prop) (W : Wd) (s : Shared) : Ext own W s W s :=
  ⟨Le.refl W, fun _ o h => ⟨o, h⟩, fun _ _ _ h => h, fun _ _ _ _ h => h, rfl, rfl⟩
theorem Ext.trans {own : Addr → Prop} {W W' W'' : Wd} {s s' s'' : Shared} (x : Ext own W s W' s') (y : Ext own W' s' W'' s'') : Ext own W s W'' s'' where
  le := x.le.trans y.le
  alive := fun a o h => let ⟨o1, h1⟩ := x.alive a o h; y.alive a o1 h1
  oth := fun a o h e => let ⟨o1, h1⟩ := x.alive a o h; y.oth a o1 h1 (x.oth a o h e)
  kept := fun a o hm ho e => y.kept a o (x.unmut e hm) ho (x.kept a o hm ho e)
  gens := y.gens.trans x.gens
  os := y.os.trans x.os
theorem Ext.weaken {own own' : Addr → Prop} {W W' : Wd} {s s' : Shared} (x : Ext own W s W' s') (h : ∀ a, own a → own' a) : Ext own' W s W' s' :=
  ⟨x.le, x.alive, x.oth, fun a o hm ho e => x.kept a o hm (fun q => ho (h a q)) e, x.gens, x.os⟩
theorem Ext.toks {own : Addr → Prop} {W W' : Wd} {s s' : Shared} (x : Ext own W s W' s') (tk : Nat) : Ext own W s W' { s' with toks := tk } :=
  ⟨x.le, x.alive, x.oth, x.kept, x.gens, x.os⟩
theorem Heap.IsCell.at' {h h' : Heap} {a : Addr} {v : Option Value} (x : h.IsCell a v) (k : ∀ o, h.get? a = some o → h'.get? a = some o) : h'.IsCell a v :=
  let ⟨o, ho, hd⟩ := x; ⟨o, k o ho, hd⟩
theorem Heap.Ns.at' {h h' : Heap} {a : Addr} {m : Str → Option Value} (x : h.Ns a m) (k : ∀ o, h.get? a = some o → h'.get? a = some o) : h'.Ns a m :=
  let ⟨o, es, ep, ho, r⟩ := x; ⟨o, es, ep, k o ho, r⟩
theorem FrV.ext {c : Cx} {p : Pl} {W W' : Wd} {loc : List AV} {s s' : Shared} {own : Addr → Prop} (F : FrV c p W loc s.heap) (x : Ext own W s W' s')
    (hL : ¬ own p.env.locals) (hC : ∀ y a, p.env.cells.lookup y = some a → ¬ own a) : FrV c p W' loc s'.heap := by
  have kL : ∀ o, s.heap.get? p.env.locals = some o → s'.heap.get? p.env.locals = some o := fun o e => x.kept _ o (by unfold Wd.Mut; rw [F.roleL]; simp [Role.mut]) hL e
  have kC : ∀ y a, p.env.cells.lookup y = some a → ∀ o, s.heap.get? a = some o → s'.heap.get? a = some o := fun y a hm o e => x.kept _ o (by unfold Wd.Mut; rw [(F.roleC y a hm).1]; simp [Role.mut]) (hC y a hm) e
  obtain ⟨ml, hns, hml⟩ := F.ns
  refine ⟨⟨ml, Heap.Ns.at' hns kL, fun i y v h1 h2 h3 h4 => ?_⟩, fun i y v h1 h2 h3 h4 => ?_, fun y a e => ?_, F.hasCell, F.kinds, F.apart, F.wcIn, (let ⟨_, _, _, ho, _⟩ := hns; x.oth _ _ ho F.roleL), fun y a hm => ?_, F.lo, F.scope, F.kind, F.globals, F.builtins, F.nodup⟩
  · obtain ⟨val, e, r⟩ := hml i y v h1 h2 h3 h4; exact ⟨val, e, r.mono x.le⟩
  · obtain ⟨val, a, e, q, r⟩ := F.cl i y v h1 h2 h3 h4; exact ⟨val, a, e, Heap.IsCell.at' q (kC y a e), r.mono x.le⟩
  · obtain ⟨v, q⟩ := F.cells y a e; exact ⟨v, Heap.IsCell.at' q (kC y a e)⟩
  · obtain ⟨r1, r2, r3⟩ := F.roleC y a hm
    obtain ⟨v, q⟩ := F.cells y a hm
    exact ⟨(let ⟨_, ho, _⟩ := q; x.oth a _ ho r1), r2, r3⟩
noncomputable def Ok (c : Cx) (p : Pl) {α β : Type} (W0 : Wd) (t : Sem α) (R : Wd → α → β → Prop) (f : AS → Option (β × AS)) : Prop :=
  ∀ (W : Wd) (st : AS) (s : Shared), Le W0 W → Inv c p W st s → ∀ (b : β) (st' : AS), f st = some (b, st') →
    ∀ (Q : α → Shared → Prop) (E : Value → Shared → Prop), (∀ W' a s', Ext p.Own W s W' s' → Inv c p W' st' s' → R W' a b → Q a s') → wpAny (model c.prog c.w) p.A t Q E s
noncomputable def bd {α β : Type} (f : AS → Option (α × AS)) (g : α → AS → Option (β × AS)) : AS → Option (β × AS) := fun st =>
  match f st with
  | some (a, st') => g a st'
  | .none => .none
noncomputable def pu {α : Type} (a : α) : AS → Option (α × AS) := fun st => some (a, st)
noncomputable def no {α : Type} : AS → Option (α × AS) := fun _ => .none
theorem bd_some {α β : Type} {f : AS → Option (α × AS)} {g : α → AS → Option (β × AS)} {st st' : AS} {b : β} (h : bd f g st = some (b, st')) : ∃ a st1, f st = some (a, st1) ∧ g a st1 = some (b, st') := by
  unfold bd at h
  split at h
  · exact ⟨_, _, by assumption, h⟩
  · cases h
theorem Ok.bind {c : Cx} {p : Pl} {α β γ δ : Type} {W0 : Wd} {t : Sem α} {k : α → Sem γ} {R : Wd → α → β → Prop} {R' : Wd → γ → δ → Prop} {f : AS → Option (β × AS)} {g : β → AS → Option (δ × AS)}
    (h1 : Ok c p W0 t R f) (h2 : ∀ W1 a b, Le W0 W1 → R W1 a b → Ok c p W1 (k a) R' (g b)) : Ok c p W0 (t >>= k) R' (bd f g) := by
  intro W st s hle I b st' e Q E hQ
  obtain ⟨a, st1, e1, e2⟩ := bd_some e
  refine wpAny_bind (h1 W st s hle I a st1 e1 _ E fun W1 va s1 x1 I1 r1 => ?_)
  exact h2 W1 va a (hle.trans x1.le) r1 W1 st1 s1 (Le.refl _) I1 b st' e2 Q E fun W2 vb s2 x2 I2 r2 => hQ W2 vb s2 (x1.trans x2) I2 r2
theorem Ok.pure {c : Cx} {p : Pl} {α β : Type} {W0 : Wd} {a : α} {b : β} {R : Wd → α → β → Prop} (h : ∀ W, Le W0 W → R W a b) : Ok c p W0 (Pure.pure a) R (pu b) := by
  intro W st s hle I b' st' e Q E hQ
  cases e
  exact wpAny_pure (hQ W a s (Ext.refl ..) I (h W hle))
theorem Ok.of {c : Cx} {p : Pl} {α β : Type} {W0 : Wd} {t t' : Sem α} {R : Wd → α → β → Prop} {f : AS → Option (β × AS)} (h : Ok c p W0 t' R f)
    (k : ∀ (s : Shared) (Q : α → Shared → Prop) (E : Value → Shared → Prop), wpAny (model c.prog c.w) p.A t' Q E s → wpAny (model c.prog c.w) p.A t Q E s) : Ok c p W0 t R f :=
  fun W st s hle I b st' e Q E hQ => k s Q E (h W st s hle I b st' e Q E hQ)
theorem Inv.toks {c : Cx} {p : Pl} {W : Wd} {st : AS} {s : Shared} (I : Inv c p W st s) (tk : Nat) : Inv c p W st { s with toks := tk } := ⟨I.hr, I.fr⟩
noncomputable def Room (n : Nat) (A : Around) : Prop := A.handled = .none ∧ A.depth + 2 * n ≤ 900 ∧ A.units + 100 * n + 100 ≤ 9000
theorem Room.units {n : Nat} {A : Around} (h : Room n A) : A.units + 64 < cLine := by have := h.2.2; unfold cLine; omega
theorem Room.depth {n : Nat} {A : Around} (h : Room n A) : A.depth < recursionLimit := by have := h.2.1; unfold recursionLimit; omega
theorem Room.deeper {n : Nat} {A : Around} (h : Room (n + 1) A) (env : Env) : Room n (A.deeper env) :=
  ⟨h.1, by have := h.2.1; show A.depth + 1 + 2 * n ≤ 900; omega, by have := h.2.2; show A.units + 3 + 100 * n + 100 ≤ 9000; omega⟩
noncomputable def ImplE (c : Cx) (n : Nat) (sx : Sx) (e : Expr) (f : AS → Option (AV × AS)) : Prop := ∀ p : Pl, p.sx = sx → Room n p.A → ∀ W0, Ok c p W0 (eval e p.env) VR f
end Mine

namespace Mine


theorem HR.grow {c : Cx} {W : Wd} {st : AS} {h h' : Heap} (H : HR c W st h) (k : ∀ b o, ((∃ o', c.h0.get? b = some o') ∨ W.role b ≠ .oth) → h.get? b = some o → h'.get? b = some o) : HR c W st h' where
  keep := fun a o e => k a o (.inl ⟨o, e⟩) (H.keep a o e)
  mutA := H.mutA
  lt := fun a => by
    rcases Classical.em (W.role a = .oth) with q | q
    · exact .inl q
    · exact (H.lt a).imp id fun ⟨o, h⟩ => ⟨o, k a o (.inr q) h⟩
  frz := fun a o e => k a o (.inr (by rw [e]; intro q; cases q)) (H.frz a o e)
  ni := H.ni
  nl := H.nl
  iaR := H.iaR
  insA := fun q i e => by
    obtain ⟨es, n, e1, e2, r⟩ := H.insA q i e
    have hq : q < W.ni := by rw [H.ni]; exact (List.getElem?_eq_some_iff.mp e).1
    obtain ⟨r1, r2⟩ := H.iaR q hq
    exact ⟨es, n, k _ _ (.inr (by rw [r1]; intro q; cases q)) e1, k _ _ (.inr (by rw [r2]; intro q; cases q)) e2, r⟩
  lstA := fun g hg p hp => by
    obtain ⟨h1, h2, vs, n, h3, h4⟩ := H.lstA g hg p hp
    exact ⟨h1, h2, vs, n, k _ _ (.inr (by rw [h2]; intro q; cases q)) h3, h4⟩
  nodup := H.nodup
theorem FrV.grow {c : Cx} {p : Pl} {W : Wd} {loc : List AV} {h h' : Heap} (F : FrV c p W loc h) (k : ∀ b o, (b = p.env.locals ∨ ∃ x, p.env.cells.lookup x = some b) → h.get? b = some o → h'.get? b = some o) : FrV c p W loc h' := by
  obtain ⟨ml, hns, hml⟩ := F.ns
  refine ⟨⟨ml, Heap.Ns.at' hns fun o e => k _ _ (.inl rfl) e, hml⟩, fun i y v h1 h2 h3 h4 => ?_, fun y a e => ?_, F.hasCell, F.kinds, F.apart, F.wcIn, F.roleL, F.roleC, F.lo, F.scope, F.kind, F.globals, F.builtins, F.nodup⟩
  · obtain ⟨val, a, e, q, r⟩ := F.cl i y v h1 h2 h3 h4
    exact ⟨val, a, e, Heap.IsCell.at' q fun o e' => k _ _ (.inr ⟨y, e⟩) e', r⟩
  · obtain ⟨v, q⟩ := F.cells y a e
    exact ⟨v, Heap.IsCell.at' q fun o e' => k _ _ (.inr ⟨y, e⟩) e'⟩
theorem FrV.localsLt {c : Cx} {p : Pl} {W : Wd} {loc : List AV} {h : Heap} (F : FrV c p W loc h) : p.env.locals < h.objs.size := let ⟨_, e, _⟩ := F.ns; e.lt
theorem FrV.cellLt {c : Cx} {p : Pl} {W : Wd} {loc : List AV} {h : Heap} (F : FrV c p W loc h) {x : Str} {a : Addr} (hm : p.env.cells.lookup x = some a) : a < h.objs.size := let ⟨_, q⟩ := F.cells x a hm; q.lt
theorem FrV.ownOth {c : Cx} {p : Pl} {W : Wd} {loc : List AV} {h : Heap} (F : FrV c p W loc h) {a : Addr} (hm : p.Own a) : W.role a = .oth := by
  rcases hm with rfl | hm
  · exact F.roleL
  · obtain ⟨x, hx⟩ := F.wcIn a hm; exact (F.roleC x a hx).1
theorem FrV.mono {c : Cx} {p : Pl} {W W' : Wd} {loc : List AV} {h : Heap} (F : FrV c p W loc h) (L : Le W W') (hL : W'.role p.env.locals = .oth) (hC : ∀ x a, p.env.cells.lookup x = some a → W'.role a = .oth) : FrV c p W' loc h := by
  obtain ⟨ml, hns, hml⟩ := F.ns
  refine ⟨⟨ml, hns, fun i y v h1 h2 h3 h4 => ?_⟩, fun i y v h1 h2 h3 h4 => ?_, F.cells, F.hasCell, F.kinds, F.apart, F.wcIn, hL, fun x a hm => ⟨hC x a hm, (F.roleC x a hm).2⟩, F.lo, F.scope, F.kind, F.globals, F.builtins, F.nodup⟩
  · obtain ⟨val, e, r⟩ := hml i y v h1 h2 h3 h4; exact ⟨val, e, r.mono L⟩
  · obtain ⟨val, a, e, q, r⟩ := F.cl i y v h1 h2 h3 h4; exact ⟨val, a, e, q, r.mono L⟩
theorem Inv.keeps {c : Cx} {p : Pl} {W : Wd} {st : AS} {s s' : Shared} (I : Inv c p W st s) (x : ∀ b o, s.heap.get? b = some o → s'.heap.get? b = some o) : Inv c p W st s' :=
  ⟨I.hr.grow (fun b o _ e => x b o e), I.fr.grow fun b o _ e => x b o e⟩
theorem Ext.keeps (own : Addr → Prop) (W : Wd) {s s' : Shared} (x : ∀ b o, s.heap.get? b = some o → s'.heap.get? b = some o) (hg : s'.gens = s.gens) (ho : s'.os = s.os) : Ext own W s W s' :=
  ⟨Le.refl W, fun a o e => ⟨o, x a o e⟩, fun _ _ _ h => h, fun a o _ _ e => x a o e, hg, ho⟩
noncomputable def Wd.set (W : Wd) (a : Addr) (r : Role) : Wd := { W with role := fun b => if b = a then r else W.role b }
theorem Wd.set_role (W : Wd) (a b : Addr) (r : Role) : (W.set a r).role b = if b = a then r else W.role b := rfl
theorem Wd.set_other {W : Wd} {a b : Addr} {r : Role} (h : b ≠ a) : (W.set a r).role b = W.role b := if_neg h
theorem Wd.set_self {W : Wd} {a : Addr} {r : Role} : (W.set a r).role a = r := if_pos rfl
theorem Le.set {W : Wd} {a : Addr} {r : Role} (h : W.role a = .oth) : Le W (W.set a r) :=
  ⟨Nat.le_refl _, Nat.le_refl _, fun _ _ => rfl, fun _ _ => rfl, fun _ _ => rfl, fun b o e => by
    rw [Wd.set_other]; exact e
    intro q; rw [q, h] at e; cases e⟩
theorem get_none_of_ge {h : Heap} {a : Addr} (ha : h.objs.size ≤ a) : h.get? a = .none := by
  cases e : h.get? a with
  | none => rfl
  | some o => exact absurd (Heap.lt_size e) (Nat.not_lt.mpr ha)
theorem HR.oth_of_none {c : Cx} {W : Wd} {st : AS} {h : Heap} (H : HR c W st h) {a : Addr} (ha : h.get? a = .none) : W.role a = .oth :=
  (H.lt a).elim id fun ⟨o, q⟩ => by rw [ha] at q; cases q
theorem HR.oth_of_ge {c : Cx} {W : Wd} {st : AS} {h : Heap} (H : HR c W st h) {a : Addr} (ha : h.objs.size ≤ a) : W.role a = .oth := H.oth_of_none (get_none_of_ge ha)
theorem HR.base_none {c : Cx} {W : Wd} {st : AS} {h : Heap} (H : HR c W st h) {a : Addr} (ha : h.get? a = .none) : c.h0.get? a = .none := by
  cases e : c.h0.get? a with
  | none => rfl
  | some o => rw [H.keep a o e] at ha; cases ha
theorem HR.newFrz {c : Cx} {W : Wd} {st : AS} {h : Heap} {a : Addr} {o : Obj} (H : HR c W st h) (hr : W.role a = .oth) (ho : h.get? a = some o) : HR c (W.set a (.frz o)) st h := by
  have L : Le W (W.set a (.frz o)) := Le.set hr
  have ne : ∀ b, W.role b ≠ .oth → (W.set a (.frz o)).role b = W.role b := fun b hb => Wd.set_other fun q => hb (q ▸ hr)
  refine ⟨H.keep, fun b hb => ?_, fun b => ?_, fun b o' e => ?_, H.ni, H.nl, fun k hk => ?_, fun k i e => ?_, fun g hg p hp => ?_, H.nodup⟩
  · refine H.mutA b ?_
    unfold Wd.Mut at hb ⊢
    rw [Wd.set_role] at hb
    split at hb
    · exact hb.elim
    · exact hb
  · rw [Wd.set_role]
    split
    · rename_i q; subst q; exact .inr ⟨o, ho⟩
    · exact H.lt b
  · rw [Wd.set_role] at e
    split at e
    · rename_i q; subst q; cases e; exact ho
    · exact H.frz b o' e
  · obtain ⟨r1, r2⟩ := H.iaR k hk
    exact ⟨(ne (W.ia k) (by rw [r1]; intro q; cases q)).trans r1, (ne (W.da k) (by rw [r2]; intro q; cases q)).trans r2⟩
  · obtain ⟨es, n, e1, e2, r⟩ := H.insA k i e
    exact ⟨es, n, e1, e2, r.mono L⟩
  · obtain ⟨h1, h2, vs, n, h3, h4⟩ := H.lstA g hg p hp
    exact ⟨h1, (ne (W.la p.1) (by rw [h2]; intro q; cases q)).trans h2, vs, n, h3, h4.mono L⟩
theorem Inv.newFrz {c : Cx} {p : Pl} {W : Wd} {st : AS} {s : Shared} {a : Addr} {o : Obj} (I : Inv c p W st s) (hr : W.role a = .oth) (ho : s.heap.get? a = some o) (hL : a ≠ p.env.locals) (hC : ∀ y, p.env.cells.lookup y ≠ some a) :
    Inv c p (W.set a (.frz o)) st s :=
  ⟨I.hr.newFrz hr ho, I.fr.mono (Le.set hr) ((Wd.set_other (Ne.symm hL)).trans I.fr.roleL) fun y b hm => (Wd.set_other (show b ≠ a from fun q => hC y (q ▸ hm))).trans (I.fr.roleC y b hm).1⟩
theorem Inv.pushFrz {c : Cx} {p : Pl} {W : Wd} {st : AS} {s : Shared} (I : Inv c p W st s) (o : Obj) (tk : Nat) (hf : o.isFreed = false := by rfl) :
    Inv c p (W.set s.heap.objs.size (.frz o)) st { s with heap := s.heap.push o, toks := tk } ∧ Ext p.Own W s (W.set s.heap.objs.size (.frz o)) { s with heap := s.heap.push o, toks := tk } := by
  have hr := I.hr.oth_of_ge (Nat.le_refl s.heap.objs.size)
  have I' : Inv c p W st { s with heap := s.heap.push o, toks := tk } := I.keeps (fun _ _ e => Heap.get?_push_of_some _ e)
  refine ⟨I'.newFrz hr (Heap.get?_push_size _ hf) (Nat.ne_of_gt I.fr.localsLt) (fun y hm => Nat.lt_irrefl _ (I.fr.cellLt hm)), Le.set hr, fun a o' e => ⟨o', Heap.get?_push_of_some _ e⟩, fun a o' ha e => ?_, fun a o' _ _ e => Heap.get?_push_of_some _ e, rfl, rfl⟩
  rw [Wd.set_other (Nat.ne_of_lt (Heap.lt_size ha))]; exact e
theorem Ok.newList {c : Cx} {p : Pl} {W0 : Wd} {vs : List Value} {xs : List AV} (h : VRs W0 vs xs) : Ok c p W0 (newList vs) VR (fun st => if xs.length ≤ 100000 then some (.lst xs, st) else .none) := by
  intro W st s hle I b st' e Q E hQ
  split at e
  · rename_i hsz
    cases e
    have hl := h.length
    refine wpAny_newObj_type ?_ (by show vs.toArray.size ≤ sizeLine; rw [List.size_toArray, sizeLine_eq]; omega)
    obtain ⟨I', x⟩ := I.pushFrz (listOf vs.toArray 0) s.toks
    exact hQ _ _ _ x I' (.lst (n := 0) Wd.set_self ((h.mono hle).mono x.le))
  · cases e
theorem Ok.newTuple {c : Cx} {p : Pl} {W0 : Wd} {vs : List Value} {xs : List AV} (h : VRs W0 vs xs) : Ok c p W0 (newTuple vs) VR (fun st => if xs.length ≤ 100000 then some (.tup xs, st) else .none) := by
  intro W st s hle I b st' e Q E hQ
  split at e
  · rename_i hsz
    cases e
    have hl := h.length
    refine wpAny_newObj_type ?_ (by show vs.toArray.size ≤ sizeLine; rw [List.size_toArray, sizeLine_eq]; omega)
    obtain ⟨I', x⟩ := I.pushFrz (tupOf vs.toArray 0) s.toks
    exact hQ _ _ _ x I' (.tup (n := 0) Wd.set_self rfl rfl ((h.mono hle).mono x.le))
  · cases e
end Mine

namespace Mine

abbrev Cm (α : Type) := AS → Option (α × AS)
structure Gd (c : Cx) : Prop where
  inK : c.K.In c.h0
  g : c.h0.Ns mainGlobals c.mg
  b : c.h0.Ns builtinsNs c.mb
  nolimit : c.h0.NoLimit
noncomputable def Cx.Glob (c : Cx) (x : Str) (v : Value) : Prop := c.mg x = some v ∨ (c.mg x = .none ∧ c.mb x = some v)
section
variable {c : Cx} {n : Nat} {sx : Sx}

noncomputable def var (i : Nat) : Cm AV := fun st =>
  match st.loc[i]? with
  | some .unb => .none
  | some v => some (v, st)
  | .none => .none
theorem var_some {i : Nat} {st st' : AS} {v : AV} (h : var i st = some (v, st')) : st.loc[i]? = some v ∧ v ≠ .unb ∧ st' = st := by
  unfold var at h
  split at h
  · cases h
  · rename_i w q hw; cases h; exact ⟨hw, q, rfl⟩
  · cases h
theorem var_get {i : Nat} {st : AS} {v : AV} (h : st.loc[i]? = some v) (hv : v ≠ .unb) : var i st = some (v, st) := by
  unfold var
  split
  · rename_i q; rw [h] at q; cases q; exact absurd rfl hv
  · rename_i q; rw [h] at q; cases q; rfl
  · rename_i q; rw [h] at q; cases q
theorem ImplE.name {x : Str} {pos : Pos} {i : Nat} (hi : sx.vars[i]? = some x) (hd : (x == ("__debug__" : Str)) = false) : ImplE c n sx (.Name x pos) (var i) := by
  intro p hp _ W0 W st s hle I v st' e Q E hQ
  subst hp
  obtain ⟨e1, e2, rfl⟩ := var_some e
  have hk : p.env.scope.kind = .function := by rw [I.fr.scope]; exact I.fr.kind
  refine wpAny_Name ?_ hd
  rcases I.fr.kinds x (List.mem_of_getElem? hi) with hl | hl
  · obtain ⟨ml, hns, hml⟩ := I.fr.ns
    obtain ⟨val, hv, r⟩ := hml i x v hi e1 e2 hl
    exact wpAny_loadName_local hk hl hns hv (hQ W val s (Ext.refl ..) I r)
  · obtain ⟨val, a, hc, hcell, r⟩ := I.fr.cl i x v hi e1 e2 hl
    exact wpAny_loadName_cell hk hl hc hcell (hQ W val s (Ext.refl ..) I r)
theorem load_glob (G : Gd c) {p : Pl} {W : Wd} {st : AS} {s : Shared} (I : Inv c p W st s) {x : Str} {pos : Pos} {v : Value} (hx : p.sx.sc.names.lookup x = some .globalImplicit) (hg : c.Glob x v) (hd : (x == ("__debug__" : Str)) = false)
    {Q : Value → Shared → Prop} {E : Value → Shared → Prop} (h : Q v s) : wpAny (model c.prog c.w) p.A (eval (.Name x pos) p.env) Q E s := by
  have hk : p.env.scope.kind = .function := by rw [I.fr.scope]; exact I.fr.kind
  have hx' : p.env.kindOf x = some .globalImplicit := by unfold Env.kindOf; rw [I.fr.scope]; exact hx
  have g1 : s.heap.Ns p.env.globals c.mg := by rw [I.fr.globals]; exact G.g.keeps I.hr.keep
  have g2 : s.heap.Ns p.env.builtins c.mb := by rw [I.fr.builtins]; exact G.b.keeps I.hr.keep
  refine Calls.Name_function_global hk hx' ?_ hd
  rcases hg with hg | ⟨hg, hb⟩
  · exact Calls.loadGlobal_global g1 hg h
  · exact Calls.loadGlobal_builtin g1 hg g2 hb h
theorem ImplE.cnone {k : Nat} {pos : Pos} : ImplE c n sx (.Constant .none k pos) (pu .none) := by
  intro p _ _ W0 W st s hle I b st' e Q E hQ; cases e
  exact wpAny_Constant_none (hQ W _ s (Ext.refl ..) I .none)
theorem ImplE.cbool {b : Bool} {k : Nat} {pos : Pos} : ImplE c n sx (.Constant (.bool b) k pos) (pu (.bool b)) := by
  intro p _ _ W0 W st s hle I b st' e Q E hQ; cases e
  exact wpAny_Constant_bool (hQ W _ s (Ext.refl ..) I (.bool _))
theorem ImplE.cint {i : Int} {k : Nat} {pos : Pos} : ImplE c n sx (.Constant (.int i) k pos) (pu (.int i)) := by
  intro p _ _ W0 W st s hle I b st' e Q E hQ; cases e
  exact wpAny_Constant_int (hQ W _ _ ((Ext.refl ..).toks _) (I.toks _) (.int _ _))
theorem ImplE.cstr {x : Str} {k : Nat} {pos : Pos} : ImplE c n sx (.Constant (.str x) k pos) (pu (.str x)) := by
  intro p _ _ W0 W st s hle I b st' e Q E hQ; cases e
  exact wpAny_Constant_str (hQ W _ _ ((Ext.refl ..).toks _) (I.toks _) (.str _ _))
noncomputable def ImplEs (c : Cx) (n : Nat) (sx : Sx) (es : List Expr) (f : Cm (List AV)) : Prop := ∀ p : Pl, p.sx = sx → Room n p.A → ∀ W0 pos, Ok c p W0 (spliced (backTo pos (starEach es p.env))) VRs f
noncomputable def plainX : Expr → Bool
  | .Starred .. => false
  | _ => true
theorem star_plain {e : Expr} {rest : List Expr} {env : Env} (h : plainX e = true) : starEach (e :: rest) env = (false, eval e env) :: starEach rest env := by
  cases e <;> first | rfl | cases h
theorem ImplEs.nil : ImplEs c n sx [] (pu []) := by
  intro p _ _ W0 pos W st s hle I b st' e Q E hQ; cases e
  exact wpAny_items_nil (hQ W _ s (Ext.refl ..) I .nil)
noncomputable def consM (f : Cm AV) (g : Cm (List AV)) : Cm (List AV) := bd f fun x => bd g fun xs => pu (x :: xs)
theorem ImplEs.cons {e : Expr} {es : List Expr} {f : Cm AV} {g : Cm (List AV)} (h1 : ImplE c n sx e f) (h2 : ImplEs c n sx es g) (hp : plainX e = true := by rfl) : ImplEs c n sx (e :: es) (consM f g) := by
  intro p hsx hr W0 pos W st s hle I b st' e Q E hQ
  obtain ⟨x, st1, e1, e2⟩ := bd_some e
  obtain ⟨xs, st2, e3, e4⟩ := bd_some e2
  cases e4
  refine wpAny_items_cons (h1 p hsx hr W W st s (Le.refl _) I x st1 e1 _ E fun W1 v s1 x1 I1 r1 => ?_) (star_plain hp)
  refine h2 p hsx hr W1 pos W1 st1 s1 (Le.refl _) I1 xs st' e3 _ E fun W2 vs s2 x2 I2 r2 => ?_
  exact hQ W2 _ s2 (x1.trans x2) I2 (.cons (r1.mono x2.le) r2)
noncomputable def lstM (xs : List AV) : Cm AV := fun st => if xs.length ≤ 100000 then some (.lst xs, st) else .none
noncomputable def tupM (xs : List AV) : Cm AV := fun st => if xs.length ≤ 100000 then some (.tup xs, st) else .none
theorem ImplE.list {es : List Expr} {pos : Pos} {f : Cm (List AV)} (h : ImplEs c n sx es f) : ImplE c n sx (.List es pos) (bd f lstM) := by
  intro p hsx hr W0 W st s hle I b st' e Q E hQ
  obtain ⟨xs, st1, e1, e2⟩ := bd_some e
  refine List_ (h p hsx hr W pos W st s (Le.refl _) I xs st1 e1 _ E fun W1 vs s1 x1 I1 r1 => ?_)
  exact Ok.newList r1 W1 st1 s1 (Le.refl _) I1 b st' e2 Q E fun W2 v s2 x2 I2 r2 => hQ W2 v s2 (x1.trans x2) I2 r2
theorem ImplE.tuple {es : List Expr} {k : Nat} {pos : Pos} {f : Cm (List AV)} (h : ImplEs c n sx es f) : ImplE c n sx (.Tuple es k pos) (bd f tupM) := by
  intro p hsx hr W0 W st s hle I b st' e Q E hQ
  obtain ⟨xs, st1, e1, e2⟩ := bd_some e
  refine Tuple_ (h p hsx hr W pos W st s (Le.refl _) I xs st1 e1 _ E fun W1 vs s1 x1 I1 r1 => ?_)
  exact Ok.newTuple r1 W1 st1 s1 (Le.refl _) I1 b st' e2 Q E fun W2 v s2 x2 I2 r2 => hQ W2 v s2 (x1.trans x2) I2 r2
noncomputable def OkBin (c : Cx) (n : Nat) (op : Operator) (g : AV → AV → Cm AV) : Prop := ∀ p : Pl, Room n p.A → ∀ W0 a b x y, VR W0 a x → VR W0 b y → Ok c p W0 (binaryOp op a b) VR (g x y)
noncomputable def OkCmp (c : Cx) (n : Nat) (op : CmpOp) (g : AV → AV → Cm Bool) : Prop := ∀ p : Pl, Room n p.A → ∀ W0 a b x y, VR W0 a x → VR W0 b y → Ok c p W0 (compareOp op a b) (fun _ v b => v = .bool b) (g x y)
noncomputable def bin2 (f g : Cm AV) (h : AV → AV → Cm AV) : Cm AV := bd f fun x => bd g fun y => h x y
noncomputable def cmp2 (f g : Cm AV) (h : AV → AV → Cm Bool) : Cm Bool := bd f fun x => bd g fun y => h x y
theorem ImplE.bin {l r : Expr} {op : Operator} {pos : Pos} {f g : Cm AV} {h : AV → AV → Cm AV} (h1 : ImplE c n sx l f) (h2 : ImplE c n sx r g) (h3 : OkBin c n op h) : ImplE c n sx (.BinOp l op r pos) (bin2 f g h) := by
  intro p hsx hr W0 W st s hle I b st' e Q E hQ
  obtain ⟨x, st1, e1, e2⟩ := bd_some e
  obtain ⟨y, st2, e3, e4⟩ := bd_some e2
  refine wpAny_BinOp (h1 p hsx hr W W st s (Le.refl _) I x st1 e1 _ E fun W1 a s1 x1 I1 r1 => ?_)
  refine h2 p hsx hr W1 W1 st1 s1 (Le.refl _) I1 y st2 e3 _ E fun W2 vb s2 x2 I2 r2 => ?_
  exact h3 p hr W2 a vb x y (r1.mono x2.le) r2 W2 st2 s2 (Le.refl _) I2 b st' e4 Q E fun W3 v s3 x3 I3 r3 => hQ W3 v s3 ((x1.trans x2).trans x3) I3 r3
noncomputable def boolV (f : Cm Bool) : Cm AV := bd f fun b => pu (.bool b)
theorem ImplE.cmp {l r : Expr} {op : CmpOp} {pos : Pos} {f g : Cm AV} {h : AV → AV → Cm Bool} (h1 : ImplE c n sx l f) (h2 : ImplE c n sx r g) (h3 : OkCmp c n op h) (hm : behindInMarks op r = false := by rfl) :
    ImplE c n sx (.Compare l [op] [r] pos) (boolV (cmp2 f g h)) := by
  intro p hsx hr W0 W st s hle I b st' e Q E hQ
  obtain ⟨bb, st0, e0, e00⟩ := bd_some e
  cases e00
  obtain ⟨x, st1, e1, e2⟩ := bd_some e0
  obtain ⟨y, st2, e3, e4⟩ := bd_some e2
  refine wpAny_Compare1 (h1 p hsx hr W W st s (Le.refl _) I x st1 e1 _ E fun W1 a s1 x1 I1 r1 => ?_) hm
  refine h2 p hsx hr W1 W1 st1 s1 (Le.refl _) I1 y st2 e3 _ E fun W2 vb s2 x2 I2 r2 => ?_
  exact h3 p hr W2 a vb x y (r1.mono x2.le) r2 W2 st2 s2 (Le.refl _) I2 bb st' e4 Q E fun W3 v s3 x3 I3 r3 => hQ W3 v s3 ((x1.trans x2).trans x3) I3 (r3 ▸ .bool bb)
noncomputable def ImplT (c : Cx) (n : Nat) (sx : Sx) (e : Expr) (f : Cm Bool) : Prop := ∀ p : Pl, p.sx = sx → Room n p.A → ∀ W0, Ok c p W0 (isTrue e p.env (eval e p.env)) (fun _ a b => a = b) f
theorem ImplT.cmp {l r : Expr} {op : CmpOp} {pos : Pos} {f g : Cm AV} {h : AV → AV → Cm Bool} (h1 : ImplE c n sx l f) (h2 : ImplE c n sx r g) (h3 : OkCmp c n op h) (hm : behindInMarks op r = false := by rfl) :
    ImplT c n sx (.Compare l [op] [r] pos) (cmp2 f g h) := by
  intro p hsx hr W0 W st s hle I b st' e Q E hQ
  obtain ⟨x, st1, e1, e2⟩ := bd_some e
  obtain ⟨y, st2, e3, e4⟩ := bd_some e2
  refine wpAny_isTrue_Compare1 (h1 p hsx hr W W st s (Le.refl _) I x st1 e1 _ E fun W1 a s1 x1 I1 r1 => ?_) hm
  refine h2 p hsx hr W1 W1 st1 s1 (Le.refl _) I1 y st2 e3 _ E fun W2 vb s2 x2 I2 r2 => ?_
  refine h3 p hr W2 a vb x y (r1.mono x2.le) r2 W2 st2 s2 (Le.refl _) I2 b st' e4 _ E fun W3 v s3 x3 I3 r3 => ?_
  subst r3
  exact wpAny_truthy_bool (hQ W3 b s3 ((x1.trans x2).trans x3) I3 rfl)
noncomputable def truthM : AV → Cm Bool
  | .bool b => pu b
  | .none => pu false
  | _ => no
theorem truth_ok {p : Pl} {W0 : Wd} {v : Value} {x : AV} (h : VR W0 v x) : Ok c p W0 (truthy v) (fun _ a b => a = b) (truthM x) := by
  intro W st s hle I b st' e Q E hQ
  cases h with
  | bool b' => cases e; exact wpAny_truthy_bool (hQ W _ s (Ext.refl ..) I rfl)
  | none => cases e; exact truthy_none (hQ W _ s (Ext.refl ..) I rfl)
  | _ => cases e
noncomputable def plainT : Expr → Bool
  | .UnaryOp .. | .BoolOp .. | .IfExp .. | .Compare .. => false
  | _ => true
theorem isTrue_is {e : Expr} {env : Env} {t : Sem Value} (h : plainT e = true) : isTrue e env t = (do let v ← t; standAt e.pos; holding [v] (truthy v)) := by
  cases e <;> first | rfl | cases h
theorem ImplT.value {e : Expr} {f : Cm AV} (h : ImplE c n sx e f) (hp : plainT e = true := by rfl) : ImplT c n sx e (bd f truthM) := by
  intro p hsx hr W0 W st s hle I b st' e Q E hQ
  obtain ⟨x, st1, e1, e2⟩ := bd_some e
  refine wpAny_isTrue_value (h p hsx hr W W st s (Le.refl _) I x st1 e1 _ E fun W1 a s1 x1 I1 r1 => ?_) (isTrue_is hp)
  exact truth_ok r1 W1 st1 s1 (Le.refl _) I1 b st' e2 Q E fun W2 v s2 x2 I2 r2 => hQ W2 v s2 (x1.trans x2) I2 r2
noncomputable def notM (f : Cm Bool) : Cm Bool := bd f fun b => pu (!b)
theorem ImplT.not {e : Expr} {pos : Pos} {f : Cm Bool} (h : ImplT c n sx e f) : ImplT c n sx (.UnaryOp .Not e pos) (notM f) := by
  intro p hsx hr W0 W st s hle I b st' e Q E hQ
  obtain ⟨x, st1, e1, e2⟩ := bd_some e
  cases e2
  refine wpAny_isTrue_Not (h p hsx hr W W st s (Le.refl _) I x st' e1 _ E fun W1 a s1 x1 I1 r1 => ?_)
  exact hQ W1 _ s1 x1 I1 (by rw [r1])
noncomputable def ImplTs (c : Cx) (n : Nat) (sx : Sx) (op : BoolOp) (es : List Expr) (f : Cm Bool) : Prop := ∀ p : Pl, p.sx = sx → Room n p.A → ∀ W0, Ok c p W0 (allTrue op es p.env) (fun _ a b => a = b) f
noncomputable def andM (f g : Cm Bool) : Cm Bool := bd f fun b => if b then g else pu false
noncomputable def orM (f g : Cm Bool) : Cm Bool := bd f fun b => if b then pu true else g
theorem ImplTs.andNil : ImplTs c n sx .And [] (pu true) := by
  intro p _ _ W0 W st s hle I b st' e Q E hQ; cases e
  exact wpAny_allTrue_And_nil (hQ W _ s (Ext.refl ..) I rfl)
theorem ImplTs.orNil : ImplTs c n sx .Or [] (pu false) := by
  intro p _ _ W0 W st s hle I b st' e Q E hQ; cases e
  exact wpAny_allTrue_Or_nil (hQ W _ s (Ext.refl ..) I rfl)
theorem ImplTs.and {e : Expr} {es : List Expr} {f g : Cm Bool} (h1 : ImplT c n sx e f) (h2 : ImplTs c n sx .And es g) : ImplTs c n sx .And (e :: es) (andM f g) := by
  intro p hsx hr W0 W st s hle I b st' e Q E hQ
  obtain ⟨x, st1, e1, e2⟩ := bd_some e
  refine wpAny_allTrue_And_cons (h1 p hsx hr W W st s (Le.refl _) I x st1 e1 _ E fun W1 a s1 x1 I1 r1 => ?_)
  subst r1
  cases a with
  | true => exact h2 p hsx hr W1 W1 st1 s1 (Le.refl _) I1 b st' e2 Q E fun W2 v s2 x2 I2 r2 => hQ W2 v s2 (x1.trans x2) I2 r2
  | false => cases e2; exact hQ W1 _ s1 x1 I1 rfl
theorem ImplTs.or {e : Expr} {es : List Expr} {f g : Cm Bool} (h1 : ImplT c n sx e f) (h2 : ImplTs c n sx .Or es g) : ImplTs c n sx .Or (e :: es) (orM f g) := by
  intro p hsx hr W0 W st s hle I b st' e Q E hQ
  obtain ⟨x, st1, e1, e2⟩ := bd_some e
  refine wpAny_allTrue_Or_cons (h1 p hsx hr W W st s (Le.refl _) I x st1 e1 _ E fun W1 a s1 x1 I1 r1 => ?_)
  subst r1
  cases a with
  | false => exact h2 p hsx hr W1 W1 st1 s1 (Le.refl _) I1 b st' e2 Q E fun W2 v s2 x2 I2 r2 => hQ W2 v s2 (x1.trans x2) I2 r2
  | true => cases e2; exact hQ W1 _ s1 x1 I1 rfl
theorem ImplT.bool {op : BoolOp} {es : List Expr} {pos : Pos} {f : Cm Bool} (h : ImplTs c n sx op es f) : ImplT c n sx (.BoolOp op es pos) f :=
  fun p hsx hr W0 => (h p hsx hr W0).of fun _ _ _ k => wpAny_isTrue_BoolOp k
noncomputable def asBool : AV → Cm Bool
  | .bool b => pu b
  | _ => no
noncomputable def ImplBs (c : Cx) (n : Nat) (sx : Sx) (op : BoolOp) (es : List Expr) (f : Cm AV) : Prop := ∀ p : Pl, p.sx = sx → Room n p.A → ∀ W0 pos, Ok c p W0 (boolOp pos op (evalEach es p.env)) VR f
noncomputable def andV (f g : Cm AV) : Cm AV := bd f fun x => bd (asBool x) fun b => if b then g else pu x
theorem ImplBs.one {op : BoolOp} {e : Expr} {f : Cm AV} (h : ImplE c n sx e f) : ImplBs c n sx op [e] f := fun p hsx hr W0 _ => h p hsx hr W0
theorem ImplBs.and {e e' : Expr} {es : List Expr} {f g : Cm AV} (h1 : ImplE c n sx e f) (h2 : ImplBs c n sx .And (e' :: es) g) : ImplBs c n sx .And (e :: e' :: es) (andV f g) := by
  intro p hsx hr W0 pos W st s hle I b st' e Q E hQ
  obtain ⟨x, st1, e1, e2⟩ := bd_some e
  obtain ⟨bb, st2, e3, e4⟩ := bd_some e2
  show wpAny _ _ (do
    let v ← eval _ p.env
    standAt pos
    let t ← holding [v] (truthy v)
    match BoolOp.And, t with
    | .And, false | .Or, true => pure v
    | _, _ => boolOp pos .And (evalEach (e' :: es) p.env)) Q E s
  refine wpAny_bind (h1 p hsx hr W W st s (Le.refl _) I x st1 e1 _ E fun W1 a s1 x1 I1 r1 => ?_)
  refine wpAny_bind (wpAny_standAt (wpAny_bind (wpAny_holding ?_)))
  cases r1 with
  | bool b' =>
    cases e3
    refine wpAny_truthy_bool ?_
    cases bb with
    | true => exact h2 p hsx hr W1 pos W1 st1 s1 (Le.refl _) I1 b st' e4 Q E fun W2 v s2 x2 I2 r2 => hQ W2 v s2 (x1.trans x2) I2 r2
    | false => cases e4; exact wpAny_pure (hQ W1 _ s1 x1 I1 (.bool false))
  | _ => cases e3
theorem ImplE.boolop {op : BoolOp} {es : List Expr} {pos : Pos} {f : Cm AV} (h : ImplBs c n sx op es f) : ImplE c n sx (.BoolOp op es pos) f := fun p hsx hr W0 => h p hsx hr W0 pos
noncomputable def iteM {α : Type} (t : Cm Bool) (f g : Cm α) : Cm α := bd t fun b => if b then f else g
theorem ImplE.ifexp {t a b : Expr} {pos : Pos} {ft : Cm Bool} {fa fb : Cm AV} (h0 : ImplT c n sx t ft) (h1 : ImplE c n sx a fa) (h2 : ImplE c n sx b fb) : ImplE c n sx (.IfExp t a b pos) (iteM ft fa fb) := by
  intro p hsx hr W0 W st s hle I b st' e Q E hQ
  obtain ⟨x, st1, e1, e2⟩ := bd_some e
  refine wpAny_IfExp (h0 p hsx hr W W st s (Le.refl _) I x st1 e1 _ E fun W1 a s1 x1 I1 r1 => ?_)
  subst r1
  cases a with
  | true => exact h1 p hsx hr W1 W1 st1 s1 (Le.refl _) I1 b st' e2 Q E fun W2 v s2 x2 I2 r2 => hQ W2 v s2 (x1.trans x2) I2 r2
  | false => exact h2 p hsx hr W1 W1 st1 s1 (Le.refl _) I1 b st' e2 Q E fun W2 v s2 x2 I2 r2 => hQ W2 v s2 (x1.trans x2) I2 r2
end
end Mine

namespace Mine

section
variable {c : Cx} {n : Nat} {sx : Sx}

noncomputable def setV (i : Nat) (v : AV) : Cm Unit := fun st => some ((), { st with loc := st.loc.set i v })
theorem HR.loc {W : Wd} {st : AS} {h : Heap} (H : HR c W st h) (l : List AV) : HR c W { st with loc := l } h :=
  ⟨H.keep, H.mutA, H.lt, H.frz, H.ni, H.nl, H.iaR, H.insA, H.lstA, H.nodup⟩
theorem nodup_get : ∀ {l : List Str}, l.Nodup → ∀ {i j : Nat} {x : Str}, l[i]? = some x → l[j]? = some x → i = j
  | [], _, i, j, x, hi, _ => by simp at hi
  | y :: r, h, i, j, x, hi, hj => by
    obtain ⟨h1, h2⟩ := List.nodup_cons.mp h
    cases i with
    | zero =>
      cases j with
      | zero => rfl
      | succ j => simp at hi hj; subst hi; exact absurd (List.mem_of_getElem? hj) h1
    | succ i =>
      cases j with
      | zero => simp at hi hj; subst hj; exact absurd (List.mem_of_getElem? hi) h1
      | succ j => simp at hi hj; exact congrArg _ (nodup_get h2 hi hj)
theorem store_ok {p : Pl} {W0 : Wd} {i : Nat} {x : Str} {val : Value} {v : AV} (hi : p.sx.vars[i]? = some x) (hw : x ∈ p.sx.wr) (hv : VR W0 val v) : Ok c p W0 (storeName p.env x val) (fun _ _ _ => True) (setV i v) := by
  intro W st s hle I b st' e Q E hQ
  cases e
  have F := I.fr
  have hk : p.env.scope.kind = .function := by rw [F.scope]; exact F.kind
  have hv' := hv.mono hle
  obtain ⟨ml, hns, hml⟩ := F.ns
  rcases F.kinds x (List.mem_of_getElem? hi) with hl | hl
  · refine wpAny_storeName_local hl hns (fun h' hns' hsb => ?_) (by rw [hk]; rfl)
    have keepR : ∀ b o, b ≠ p.env.locals → s.heap.get? b = some o → h'.get? b = some o := fun b o hb e => hsb.extBut b o hb e
    refine hQ W () _ ⟨Le.refl W, fun a o e => ?_, fun _ _ _ e => e, fun a o _ hno e => keepR a o (fun q => hno (.inl q)) e, rfl, rfl⟩ ⟨?_, ?_⟩ trivial
    · rcases Classical.em (a = p.env.locals) with q | q
      · subst q; obtain ⟨o', _, _, ho', _⟩ := hns'; exact ⟨o', ho'⟩
      · exact ⟨o, keepR a o q e⟩
    · refine (I.hr.loc _).grow fun b o hb e => keepR b o (fun q => ?_) e
      subst q
      rcases hb with ⟨o', hb⟩ | hb
      · rw [F.lo] at hb; cases hb
      · exact hb F.roleL
    · refine ⟨⟨_, hns', fun j y u h1 h2 h3 h4 => ?_⟩, fun j y u h1 h2 h3 h4 => ?_, fun y a hm => ?_, F.hasCell, F.kinds, F.apart, F.wcIn, F.roleL, F.roleC, F.lo, F.scope, F.kind, F.globals, F.builtins, F.nodup⟩
      · simp only [List.getElem?_set] at h2
        by_cases hij : i = j
        · subst hij
          rw [hi] at h1; cases h1
          rw [if_pos rfl] at h2
          split at h2
          · cases h2; exact ⟨val, if_pos rfl, hv'⟩
          · cases h2
        · rw [if_neg hij] at h2
          obtain ⟨vl, e1, r⟩ := hml j y u h1 h2 h3 h4
          have : y ≠ x := fun q => hij (nodup_get F.nodup hi (q ▸ h1))
          exact ⟨vl, by simp only [this, if_false]; exact e1, r⟩
      · simp only [List.getElem?_set] at h2
        have hij : i ≠ j := fun q => by subst q; rw [hi] at h1; cases h1; rw [hl] at h4; cases h4
        rw [if_neg hij] at h2
        obtain ⟨vl, a, e1, q, r⟩ := F.cl j y u h1 h2 h3 h4
        exact ⟨vl, a, e1, q.sameBut hsb (F.roleC y a e1).2.1, r⟩
      · obtain ⟨u, q⟩ := F.cells y a hm
        exact ⟨u, q.sameBut hsb (F.roleC y a hm).2.1⟩
  · obtain ⟨a, hc, hwc⟩ := F.hasCell x (List.mem_of_getElem? hi) hl
    have hwc := hwc hw
    obtain ⟨v0, hcell⟩ := F.cells x a hc
    have hra := F.roleC x a hc
    refine wpAny_storeName_cell hk hl hc hcell fun h' hcell' hsb => ?_
    have keepR : ∀ b o, b ≠ a → s.heap.get? b = some o → h'.get? b = some o := fun b o hb e => hsb.extBut b o hb e
    refine hQ W () _ ⟨Le.refl W, fun b o e => ?_, fun _ _ _ e => e, fun b o _ hno e => keepR b o (fun q => hno (.inr (q ▸ hwc))) e, rfl, rfl⟩ ⟨?_, ?_⟩ trivial
    · rcases Classical.em (b = a) with q | q
      · subst q; obtain ⟨o', ho', _⟩ := hcell'; exact ⟨o', ho'⟩
      · exact ⟨o, keepR b o q e⟩
    · refine (I.hr.loc _).grow fun b o hb e => keepR b o (fun q => ?_) e
      subst q
      rcases hb with ⟨o', hb⟩ | hb
      · rw [hra.2.2] at hb; cases hb
      · exact hb hra.1
    · refine ⟨⟨ml, hns.sameBut hsb (Ne.symm hra.2.1), fun j y u h1 h2 h3 h4 => ?_⟩, fun j y u h1 h2 h3 h4 => ?_, fun y b hm => ?_, F.hasCell, F.kinds, F.apart, F.wcIn, F.roleL, F.roleC, F.lo, F.scope, F.kind, F.globals, F.builtins, F.nodup⟩
      · simp only [List.getElem?_set] at h2
        have hij : i ≠ j := fun q => by subst q; rw [hi] at h1; cases h1; rw [hl] at h4; cases h4
        rw [if_neg hij] at h2
        exact hml j y u h1 h2 h3 h4
      · simp only [List.getElem?_set] at h2
        by_cases hij : i = j
        · subst hij
          rw [hi] at h1; cases h1
          rw [if_pos rfl] at h2
          split at h2
          · cases h2; exact ⟨val, a, hc, hcell', hv'⟩
          · cases h2
        · rw [if_neg hij] at h2
          obtain ⟨vl, b, e1, q, r⟩ := F.cl j y u h1 h2 h3 h4
          have : y ≠ x := fun q => hij (nodup_get F.nodup hi (q ▸ h1))
          have hba : b ≠ a := fun q => this (name_of_addr F.apart (mem_of_lookup e1) (q ▸ mem_of_lookup hc))
          exact ⟨vl, b, e1, q.sameBut hsb hba, r⟩
      · rcases Classical.em (b = a) with q | q
        · subst q; exact ⟨_, hcell'⟩
        · obtain ⟨u, h⟩ := F.cells y b hm
          exact ⟨u, h.sameBut hsb q⟩
noncomputable def ImplA (c : Cx) (n : Nat) (sx : Sx) (t : Expr) (f : AV → Cm Unit) : Prop := ∀ p : Pl, p.sx = sx → Room n p.A → ∀ W0 val x, VR W0 val x → Ok c p W0 (assign t p.env val) (fun _ _ _ => True) (f x)
theorem ImplA.name {x : Str} {pos : Pos} {i : Nat} (hi : sx.vars[i]? = some x) (hw : sx.wr[i]? = some x) : ImplA c n sx (.Name x pos) (setV i) := by
  have hw := List.mem_of_getElem? hw
  intro p hsx hr W0 val v hv
  subst hsx
  exact (store_ok hi hw hv).of fun s Q E h => wpAny_assign_Name h
noncomputable def ImplAs (c : Cx) (n : Nat) (sx : Sx) (ts : List Expr) (f : List AV → Cm Unit) : Prop :=
  ∀ p : Pl, p.sx = sx → Room n p.A → (assignEach ts p.env).length = ts.length ∧ (assignEach ts p.env).findIdx? (·.1) = .none ∧
    ∀ W0 vals xs, VRs W0 vals xs → xs.length = ts.length → Ok c p W0 (assignInOrder ((assignEach ts p.env).map (·.2)) vals) (fun _ _ _ => True) (f xs)
noncomputable def nilA : List AV → Cm Unit := fun xs => match xs with | [] => pu () | _ => no
noncomputable def consA (f : AV → Cm Unit) (g : List AV → Cm Unit) : List AV → Cm Unit := fun xs => match xs with
  | x :: r => bd (f x) fun _ => g r
  | [] => no
theorem ImplAs.nil : ImplAs c n sx [] nilA := by
  intro p hsx hr
  refine ⟨rfl, rfl, fun W0 vals xs h hl W st s hle I b st' e Q E hQ => ?_⟩
  cases h with
  | nil => cases e; exact wpAny_pure (hQ W _ s (Ext.refl ..) I trivial)
  | cons => cases hl
theorem assign_plain {t : Expr} {ts : List Expr} {env : Env} (h : plainX t = true) : assignEach (t :: ts) env = (false, assign t env) :: assignEach ts env := by
  cases t <;> first | rfl | cases h
theorem ImplAs.cons {t : Expr} {ts : List Expr} {f : AV → Cm Unit} {g : List AV → Cm Unit} (h1 : ImplA c n sx t f) (h2 : ImplAs c n sx ts g) (hp : plainX t = true := by rfl) : ImplAs c n sx (t :: ts) (consA f g) := by
  intro p hsx hr
  obtain ⟨a1, a2, a3⟩ := h2 p hsx hr
  refine ⟨by rw [assign_plain hp, List.length_cons, List.length_cons, a1], by rw [assign_plain hp, List.findIdx?_cons]; simp [a2], fun W0 vals xs h hl W st s hle I b st' e Q E hQ => ?_⟩
  cases h with
  | nil => cases hl
  | cons hv hvs =>
    obtain ⟨u, st1, e1, e2⟩ := bd_some e
    rw [assign_plain hp]
    show wpAny _ _ (do holding _ (assign t p.env _); assignInOrder ((assignEach ts p.env).map (·.2)) _) Q E s
    refine wpAny_bind (wpAny_holding (h1 p hsx hr W _ _ (hv.mono hle) W st s (Le.refl _) I u st1 e1 _ E fun W1 _ s1 x1 I1 _ => ?_))
    exact a3 W1 _ _ ((hvs.mono hle).mono x1.le) (by simpa using hl) W1 st1 s1 (Le.refl _) I1 b st' e2 Q E fun W2 v s2 x2 I2 r2 => hQ W2 v s2 (x1.trans x2) I2 r2
noncomputable def unpackM (k : Nat) (g : List AV → Cm Unit) : AV → Cm Unit := fun x => match x with
  | .tup xs => if xs.length = k then g xs else no
  | _ => no
theorem HR.isTuple {W : Wd} {st : AS} {h : Heap} (H : HR c W st h) {a : Addr} {o : Obj} {vs : List Value} {k : Nat} (e : W.role a = .frz o) (e1 : o.cls = .type "tuple") (e2 : o.data = .seq vs.toArray k) : h.IsTuple a vs.toArray := ⟨o, H.frz a _ e, e1, _, e2⟩
theorem HR.isList {W : Wd} {st : AS} {h : Heap} (H : HR c W st h) {a : Addr} {vs : List Value} {k : Nat} (e : W.role a = .frz (listOf vs.toArray k)) : h.IsList a vs.toArray := ⟨_, H.frz a _ e, rfl, _, rfl⟩
theorem Inv.unext {p : Pl} {W : Wd} {st : AS} {s : Shared} (I : Inv c p W st s) {h' : Heap} (x : Heap.ExtBut s.heap.objs.size s.heap h') :
    Inv c p W st { s with heap := h' } ∧ Ext p.Own W s W { s with heap := h' } := by
  have k : ∀ b o, s.heap.get? b = some o → h'.get? b = some o := fun b o e => x b o (Nat.ne_of_lt (Heap.lt_size e)) e
  exact ⟨I.keeps (s' := { s with heap := h' }) k, Ext.keeps (s' := { s with heap := h' }) _ _ k rfl rfl⟩
theorem ImplA.tuple {ts : List Expr} {k : Nat} {pos : Pos} {g : List AV → Cm Unit} (h : ImplAs c n sx ts g) : ImplA c n sx (.Tuple ts k pos) (unpackM ts.length g) := by
  intro p hsx hr W0 val x hv W st s hle I b st' e Q E hQ
  obtain ⟨a1, a2, a3⟩ := h p hsx hr
  cases hv.mono hle with
  | tup hrole c1 c2 hvs =>
    simp only [unpackM] at e
    split at e
    · rename_i hl
      refine wpAny_assign_Tuple hr.1 (I.hr.isTuple hrole c1 c2) (by rw [a1, List.size_toArray, hvs.length, hl]) a2 fun h' hx => ?_
      obtain ⟨I', x'⟩ := I.unext hx
      exact a3 W _ _ hvs hl W st _ (Le.refl _) I' b st' e Q E fun W2 v s2 x2 I2 r2 => hQ W2 v s2 (x'.trans x2) I2 r2
    · cases e
  | _ => cases e
inductive AF where
  | next
  | ret (v : AV)
inductive FlowR (W : Wd) : Flow → AF → Prop
  | next : FlowR W .next .next
  | ret {v : Value} {x : AV} : VR W v x → FlowR W (.ret v) (.ret x)
noncomputable def ImplS1 (c : Cx) (n : Nat) (sx : Sx) (t : Stmt) (f : Cm AF) : Prop := ∀ p : Pl, p.sx = sx → Room n p.A → ∀ W0, Ok c p W0 (exec t p.env) FlowR f
noncomputable def ImplS (c : Cx) (n : Nat) (sx : Sx) (ts : List Stmt) (f : Cm AF) : Prop := ∀ p : Pl, p.sx = sx → Room n p.A → ∀ W0, Ok c p W0 (execs ts p.env) FlowR f
noncomputable def thenM (f g : Cm AF) : Cm AF := bd f fun r => match r with
  | .next => g
  | .ret v => pu (.ret v)
theorem ImplS.nil : ImplS c n sx [] (pu .next) := by
  intro p _ _ W0 W st s hle I b st' e Q E hQ; cases e
  exact wpAny_execs_nil (hQ W _ s (Ext.refl ..) I .next)
theorem ImplS.cons {t : Stmt} {ts : List Stmt} {f g : Cm AF} (h1 : ImplS1 c n sx t f) (h2 : ImplS c n sx ts g) : ImplS c n sx (t :: ts) (thenM f g) := by
  intro p hsx hr W0 W st s hle I b st' e Q E hQ
  obtain ⟨r, st1, e1, e2⟩ := bd_some e
  refine wpAny_execs_cons (h1 p hsx hr W W st s (Le.refl _) I r st1 e1 _ E fun W1 fl s1 x1 I1 r1 => ?_)
  cases r1 with
  | next => exact h2 p hsx hr W1 W1 st1 s1 (Le.refl _) I1 b st' e2 Q E fun W2 v s2 x2 I2 r2 => hQ W2 v s2 (x1.trans x2) I2 r2
  | ret hv => cases e2; exact hQ W1 _ s1 x1 I1 (.ret hv)
noncomputable def envS (sc : Scope) : Env := { scope := sc, locals := 0, globals := 0, cells := [] }
noncomputable def asgM (f : Cm AV) (g : AV → Cm Unit) : Cm AF := bd f fun x => bd (g x) fun _ => pu .next
theorem swaps1_static {t : Option Expr} {value : Expr} {line : Nat} {env : Env} {sc : Scope} (h : env.scope = sc) : swapsWith value t line env = swapsWith value t line (envS sc) := by
  obtain ⟨scope, locals, globals, cells, qual, func, code, frame, builtins⟩ := env
  dsimp only at h; subst h; rfl
theorem swaps_static {t : List Expr} {value : Expr} {line : Nat} {env : Env} {sc : Scope} (h : env.scope = sc) : swapsWithSole t value line env = swapsWithSole t value line (envS sc) := by
  cases t with
  | nil => rfl
  | cons a r =>
    cases r with
    | nil => exact swaps1_static h
    | cons => rfl
theorem stores_static {t : List Expr} {value : Expr} {env : Env} {sc : Scope} (h : env.scope = sc) : swappedStores t value env = swappedStores t value (envS sc) := by
  obtain ⟨scope, locals, globals, cells, qual, func, code, frame, builtins⟩ := env
  dsimp only at h; subst h; rfl
theorem assignAll_one {t : Expr} {env : Env} {v : Value} (h : plainX t = true) : assignAll v ((assignEach [t] env).map (·.2)) = assign t env v := by
  rw [assign_plain h]; rfl
theorem ImplS1.assign {t value : Expr} {pos : Pos} {f : Cm AV} {g : AV → Cm Unit} (h1 : ImplE c n sx value f) (h2 : ImplA c n sx t g)
    (hs : swapsWithSole [t] value pos.line (envS sx.sc) = pure false := by rfl) (hw : swappedStores [t] value (envS sx.sc) = pure .none := by rfl) (hp : plainX t = true := by rfl) :
    ImplS1 c n sx (.Assign [t] value pos) (asgM f g) := by
  intro p hsx hr W0 W st s hle I b st' e Q E hQ
  obtain ⟨x, st1, e1, e2⟩ := bd_some e
  obtain ⟨u, st2, e3, e4⟩ := bd_some e2
  cases e4
  have hsc : p.env.scope = sx.sc := by rw [I.fr.scope, hsx]
  refine wpAny_Assign_stores (h1 p hsx hr W W st s (Le.refl _) I x st1 e1 _ E fun W1 v s1 x1 I1 r1 => ?_) (by rw [swaps_static hsc]; exact hs) (by rw [stores_static hsc]; exact hw)
  rw [assignAll_one hp]
  exact h2 p hsx hr W1 v x r1 W1 st1 s1 (Le.refl _) I1 u st' e3 _ E fun W2 _ s2 x2 I2 _ => hQ W2 _ s2 (x1.trans x2) I2 .next
noncomputable def ImplN (c : Cx) (sx : Sx) (xs : List Str) (f : List AV → Cm Unit) : Prop :=
  ∀ p : Pl, p.sx = sx → ∀ W0 vals ys, VRs W0 vals ys → ys.length = xs.length → Ok c p W0 (assignInOrder (xs.map fun x => bindName p.env x) vals) (fun _ _ _ => True) (f ys)
theorem ImplN.nil : ImplN c sx [] nilA := by
  intro p hsx W0 vals ys h hl W st s hle I b st' e Q E hQ
  cases h with
  | nil => cases e; exact wpAny_pure (hQ W _ s (Ext.refl ..) I trivial)
  | cons => cases hl
theorem ImplN.cons {x : Str} {xs : List Str} {i : Nat} {g : List AV → Cm Unit} (hi : sx.vars[i]? = some x) (hw : sx.wr[i]? = some x) (h2 : ImplN c sx xs g) : ImplN c sx (x :: xs) (consA (setV i) g) := by
  have hw := List.mem_of_getElem? hw
  intro p hsx W0 vals ys h hl W st s hle I b st' e Q E hQ
  cases h with
  | nil => cases hl
  | cons hv hvs =>
    obtain ⟨u, st1, e1, e2⟩ := bd_some (show bd (setV i _) (fun _ => g _) st = some (b, st') from e)
    show wpAny _ _ (do holding _ (bindName p.env x _); assignInOrder (xs.map fun x => bindName p.env x) _) Q E s
    subst hsx
    refine wpAny_bind (wpAny_holding (wpAny_bindName (store_ok hi hw (hv.mono hle) W st s (Le.refl _) I u st1 e1 _ E fun W1 _ s1 x1 I1 _ => ?_)))
    exact h2 p rfl W1 _ _ ((hvs.mono hle).mono x1.le) (by simpa using hl) W1 st1 s1 (Le.refl _) I1 b st' e2 Q E fun W2 v s2 x2 I2 r2 => hQ W2 v s2 (x1.trans x2) I2 r2
noncomputable def swapM (k : Nat) (g : List AV → Cm Unit) : AV → Cm Unit := fun x => match x with
  | .tup xs => if xs.length = k then g xs.reverse else no
  | _ => no
theorem ImplS1.swapped {ts : List Expr} {k : Nat} {tpos : Pos} {value : Expr} {pos : Pos} {names : List Str} {f : Cm AV} {g : List AV → Cm Unit} (h1 : ImplE c n sx value f)
    (hw : swappedStores [.Tuple ts k tpos] value (envS sx.sc) = pure (some names)) (h2 : ImplN c sx names.reverse g)
    (hs : swapsWithSole [.Tuple ts k tpos] value pos.line (envS sx.sc) = pure false := by rfl) :
    ImplS1 c n sx (.Assign [.Tuple ts k tpos] value pos) (asgM f (swapM names.length g)) := by
  intro p hsx hr W0 W st s hle I b st' e Q E hQ
  obtain ⟨x, st1, e1, e2⟩ := bd_some e
  obtain ⟨u, st2, e3, e4⟩ := bd_some e2
  cases e4
  have hsc : p.env.scope = sx.sc := by rw [I.fr.scope, hsx]
  refine Assign_Tuple_swapped (names := names) (h1 p hsx hr W W st s (Le.refl _) I x st1 e1 _ E fun W1 v s1 x1 I1 r1 => ?_) (by rw [swaps_static hsc]; exact hs) (by rw [stores_static hsc]; exact hw)
  cases r1 with
  | @tup a o vs k xs hrole c1 c2 hvs =>
    simp only [swapM] at e3
    split at e3
    · rename_i hl
      have hsz : names.length = vs.toArray.size := by rw [List.size_toArray, hvs.length, hl]
      rw [hsz]
      refine wpAny_unpackItems_tuple hr.1 (I1.hr.isTuple hrole c1 c2) fun h' hx => ?_
      obtain ⟨I', x'⟩ := I1.unext hx
      exact h2 p hsx W1 _ _ hvs.reverse (by simp [hl]) W1 st1 _ (Le.refl _) I' u st' e3 _ E fun W2 _ s2 x2 I2 _ => hQ W2 _ s2 ((x1.trans x').trans x2) I2 .next
    · cases e3
  | _ => cases e3
noncomputable def dropM (f : Cm AV) : Cm AF := bd f fun _ => pu .next
theorem swapsE_static {value : Expr} {line : Nat} {env : Env} {sc : Scope} (h : env.scope = sc) : swapsWith value .none line env = swapsWith value .none line (envS sc) := by
  obtain ⟨scope, locals, globals, cells, qual, func, code, frame, builtins⟩ := env
  dsimp only at h; subst h; rfl
theorem ImplS1.expr {e : Expr} {pos : Pos} {f : Cm AV} (h : ImplE c n sx e f) (hi : interactive (envS sx.sc) = false := by rfl) (hs : swapsWith e .none pos.line (envS sx.sc) = pure false := by rfl) : ImplS1 c n sx (.Expr e pos) (dropM f) := by
  intro p hsx hr W0 W st s hle I b st' e Q E hQ
  obtain ⟨x, st1, e1, e2⟩ := bd_some e
  have hsc : p.env.scope = sx.sc := by rw [I.fr.scope, hsx]
  have hi' : interactive p.env = false := by rw [← hi]; unfold interactive; rw [hsc]; rfl
  refine wpAny_Expr_any (h p hsx hr W W st s (Le.refl _) I x st1 e1 _ E fun W1 v s1 x1 I1 r1 => ?_) hi' (by rw [swapsE_static hsc]; exact hs)
  cases e2; exact hQ W1 _ s1 x1 I1 .next
theorem ImplS1.ite {t : Expr} {a b : List Stmt} {pos : Pos} {ft : Cm Bool} {fa fb : Cm AF} (h0 : ImplT c n sx t ft) (h1 : ImplS c n sx a fa) (h2 : ImplS c n sx b fb) : ImplS1 c n sx (.If t a b pos) (iteM ft fa fb) := by
  intro p hsx hr W0 W st s hle I b st' e Q E hQ
  obtain ⟨x, st1, e1, e2⟩ := bd_some e
  refine wpAny_If (h0 p hsx hr W W st s (Le.refl _) I x st1 e1 _ E fun W1 a s1 x1 I1 r1 => ?_)
  subst r1
  cases a with
  | true => exact h1 p hsx hr W1 W1 st1 s1 (Le.refl _) I1 b st' e2 Q E fun W2 v s2 x2 I2 r2 => hQ W2 v s2 (x1.trans x2) I2 r2
  | false => exact h2 p hsx hr W1 W1 st1 s1 (Le.refl _) I1 b st' e2 Q E fun W2 v s2 x2 I2 r2 => hQ W2 v s2 (x1.trans x2) I2 r2
noncomputable def retM (f : Cm AV) : Cm AF := bd f fun x => pu (.ret x)
theorem ImplS1.ret {e : Expr} {pos : Pos} {f : Cm AV} (h : ImplE c n sx e f) : ImplS1 c n sx (.Return (some e) pos) (retM f) := by
  intro p hsx hr W0 W st s hle I b st' e Q E hQ
  obtain ⟨x, st1, e1, e2⟩ := bd_some e
  cases e2
  exact wpAny_Return_some (h p hsx hr W W st s (Le.refl _) I x st' e1 _ E fun W1 v s1 x1 I1 r1 => hQ W1 _ s1 x1 I1 (.ret r1))
end
end Mine

namespace Mine

section
variable {c : Cx} {n : Nat} {sx : Sx}

noncomputable def frz0 (seg : List (Nat × List AV)) : AV → AV
  | .lob k => (match lookL k seg with | some xs => .lst xs | .none => .lob k)
  | v => v
noncomputable def frzV (seg : List (Nat × List AV)) : AV → AV
  | .tup vs => .tup (vs.map (frz0 seg))
  | v => frz0 seg v
noncomputable def Wd.freeze (W : Wd) (seg : List (Nat × List AV)) (h : Heap) : Wd :=
  { W with role := fun a => match W.role a with
      | .lob k => if (lookL k seg).isSome then (match h.get? a with | some o => .frz o | .none => .oth) else .lob k
      | r => r }
theorem freeze_role {W : Wd} {seg : List (Nat × List AV)} {h : Heap} {a : Addr} (hn : ∀ k, W.role a ≠ .lob k) : (W.freeze seg h).role a = W.role a := by
  unfold Wd.freeze
  dsimp only
  split
  · rename_i k e; exact absurd e (hn k)
  · rfl
theorem freeze_lob {W : Wd} {seg : List (Nat × List AV)} {h : Heap} {a : Addr} {k : Nat} (e : W.role a = .lob k) : (W.freeze seg h).role a = if (lookL k seg).isSome then (match h.get? a with | some o => .frz o | .none => .oth) else .lob k := by
  unfold Wd.freeze
  dsimp only
  rw [e]
theorem Le.freeze (W : Wd) (seg : List (Nat × List AV)) (h : Heap) : Le W (W.freeze seg h) :=
  ⟨Nat.le_refl _, Nat.le_refl _, fun _ _ => rfl, fun _ _ => rfl, fun _ _ => rfl, fun a o e => by rw [freeze_role (by intro k q; rw [e] at q; cases q)]; exact e⟩
theorem lookL_mem {k : Nat} {xs : List AV} : ∀ {seg : List (Nat × List AV)}, lookL k seg = some xs → (k, xs) ∈ seg
  | [], h => by cases h
  | (j, ys) :: r, h => by
    simp only [lookL] at h
    split at h
    · rename_i q; subst q; cases h; exact List.mem_cons_self
    · exact List.mem_cons_of_mem _ (lookL_mem h)
theorem HR.freezeSeg {W : Wd} {st : AS} {h : Heap} {seg : List (Nat × List AV)} {r : LH} (H : HR c W st h) (e : st.lst = seg :: r) : HR c (W.freeze seg h) { st with lst := r } h := by
  have L := Le.freeze W seg h
  refine ⟨H.keep, fun a ha => ?_, fun a => ?_, fun a o ha => ?_, H.ni, H.nl, fun k hk => ?_, fun k i e' => ?_, fun g hg p hp => ?_, ?_⟩
  · rcases Classical.em (∃ k, W.role a = .lob k) with ⟨k, q⟩ | q
    · refine H.mutA a ?_; unfold Wd.Mut; rw [q]; trivial
    · refine H.mutA a ?_; unfold Wd.Mut at ha ⊢; rwa [freeze_role (fun k hk => q ⟨k, hk⟩)] at ha
  · rcases Classical.em (∃ k, W.role a = .lob k) with ⟨k, q⟩ | q
    · rcases H.lt a with z | z
      · rw [q] at z; cases z
      · exact .inr z
    · rw [freeze_role (fun k hk => q ⟨k, hk⟩)]; exact H.lt a
  · rcases Classical.em (∃ k, W.role a = .lob k) with ⟨k, q⟩ | q
    · rw [freeze_lob q] at ha
      split at ha
      · split at ha
        · rename_i o' ho; cases ha; exact ho
        · cases ha
      · cases ha
    · rw [freeze_role (fun k hk => q ⟨k, hk⟩)] at ha; exact H.frz a o ha
  · obtain ⟨r1, r2⟩ := H.iaR k hk
    exact ⟨(freeze_role (a := W.ia k) (by intro j q; rw [r1] at q; cases q)).trans r1, (freeze_role (a := W.da k) (by intro j q; rw [r2] at q; cases q)).trans r2⟩
  · obtain ⟨es, m, e1, e2, r3⟩ := H.insA k i e'
    exact ⟨es, m, e1, e2, r3.mono L⟩
  · obtain ⟨h1, h2, vs, m, h3, h4⟩ := H.lstA g (by rw [e]; exact List.mem_cons_of_mem _ hg) p hp
    refine ⟨h1, ?_, vs, m, h3, h4.mono L⟩
    show (W.freeze seg h).role (W.la p.1) = _
    rw [freeze_lob h2, if_neg]
    intro q
    obtain ⟨ys, hy⟩ := Option.isSome_iff_exists.mp q
    have nd := H.nodup
    rw [e, List.flatten_cons, List.map_append] at nd
    exact (List.nodup_append.mp nd).2.2 p.1 (List.mem_map.mpr ⟨_, lookL_mem hy, rfl⟩) p.1 (List.mem_map.mpr ⟨p, List.mem_flatten.mpr ⟨g, hg, hp⟩, rfl⟩) rfl
  · have nd := H.nodup
    rw [e, List.flatten_cons, List.map_append] at nd
    exact (List.nodup_append.mp nd).2.1
theorem frz0_ok {W : Wd} {st : AS} {h : Heap} {seg : List (Nat × List AV)} {r : LH} (H : HR c W st h) (e : st.lst = seg :: r) {val : Value} {v : AV} (hv : VR W val v) : VR (W.freeze seg h) val (frz0 seg v) := by
  have L := Le.freeze W seg h
  cases hv with
  | lob k hk =>
    simp only [frz0]
    split
    · rename_i xs hx
      obtain ⟨h1, h2, vs, m, h3, h4⟩ := H.lstA seg (by rw [e]; exact List.mem_cons_self) _ (lookL_mem hx)
      refine .lst (n := m) (vs := vs) ?_ (h4.mono L)
      dsimp only at h2 h3
      rw [freeze_lob h2, hx, h3]; rfl
    · exact (VR.lob k hk).mono L
  | none => exact .none
  | bool b => exact .bool b
  | int i t => exact .int i t
  | str x t => exact .str x t
  | bytes x t => exact .bytes x t
  | val _ hu => exact .val _ hu
  | ins k hk => exact (VR.ins k hk).mono L
  | lst h1 h2 => exact (VR.lst h1 h2).mono L
  | tup h1 h2 h3 h4 => exact (VR.tup h1 h2 h3 h4).mono L
  | lsb h1 h2 h3 h4 => exact (VR.lsb h1 h2 h3 h4).mono L
theorem frzV_ok {W : Wd} {st : AS} {h : Heap} {seg : List (Nat × List AV)} {r : LH} (H : HR c W st h) (e : st.lst = seg :: r) {val : Value} {v : AV} (hv : VR W val v) : VR (W.freeze seg h) val (frzV seg v) := by
  cases hv with
  | @tup _ _ vs m xs h1 h3 h4 h2 =>
    refine .tup ((Le.freeze W seg h).frz _ _ h1) h3 h4 ?_
    clear h1 h3 h4
    induction vs generalizing xs with
    | nil => cases h2; exact .nil
    | cons u us ih => cases h2 with | cons a b => exact .cons (frz0_ok H e a) (ih b)
  | none => exact frz0_ok H e .none
  | bool b => exact frz0_ok H e (.bool b)
  | int i t => exact frz0_ok H e (.int i t)
  | str x t => exact frz0_ok H e (.str x t)
  | bytes x t => exact frz0_ok H e (.bytes x t)
  | val _ hu => exact frz0_ok H e (.val _ hu)
  | ins k hk => exact frz0_ok H e (.ins k hk)
  | lob k hk => exact frz0_ok H e (.lob k hk)
  | lst h1 h2 => exact frz0_ok H e (.lst h1 h2)
  | lsb h1 h2 h3 h4 => exact frz0_ok H e (.lsb h1 h2 h3 h4)
noncomputable def ImplF (c : Cx) (n : Nat) (fa : Addr) (F : List AV → Cm AV) : Prop :=
  ∀ (A : Around) (W : Wd) (st : AS) (s : Shared), Room n A → HR c W st s.heap → ∀ vs xs, VRs W vs xs → ∀ v st', F xs st = some (v, st') →
    ∀ R : Result → Shared → Prop, (∀ W' val s', Ext (fun _ => False) W s W' s' → HR c W' st' s'.heap → VR W' val v → R (.ok (.ret val)) s') → codeAny (model c.prog c.w) A (.call (.ref fa) ⟨vs, []⟩) R s
noncomputable def endFn (loc : List AV) (v : AV) : Cm AV := fun st => match st.lst with
  | seg :: r => some (frzV seg v, { st with lst := r, loc := loc })
  | [] => .none
noncomputable def runFnG (fin : List AV → AV → Cm AV) (k m : Nat) (g : Cm AF) (xs : List AV) : Cm AV := fun st =>
  if xs.length = k then
    match g { st with loc := xs ++ List.replicate m .unb, lst := [] :: st.lst } with
    | some (.ret v, st1) => fin st.loc v st1
    | some (.next, st1) => fin st.loc .none st1
    | .none => .none
  else .none
noncomputable def FinOk (c : Cx) (fin : List AV → AV → Cm AV) : Prop := ∀ (W : Wd) (st st' : AS) (h : Heap) (loc : List AV) (u v : AV) (val : Value), fin loc u st = some (v, st') → HR c W st h → VR W val u →
  ∃ W', Le W W' ∧ HR c W' st' h ∧ VR W' val v ∧ ∀ a, W.role a = .oth → W'.role a = .oth
noncomputable def runFn (k m : Nat) (g : Cm AF) (xs : List AV) : Cm AV := runFnG endFn k m g xs
theorem ImplF.sub {fa : Addr} {F F' : List AV → Cm AV} (h : ImplF c n fa F) (k : ∀ xs st b st', F' xs st = some (b, st') → F xs st = some (b, st')) : ImplF c n fa F' :=
  fun A W st s hr H vs xs hv v st' e R hR => h A W st s hr H vs xs hv v st' (k _ _ _ _ e) R hR
theorem bindL_skip {kindOf : Str → Option NameKind} {x : Str} : ∀ {b : List (Str × Value)} {m : Str → Option Value}, (∀ y ∈ b, y.1 ≠ x) → bindL kindOf b m x = m x
  | [], _, _ => rfl
  | (y, v) :: r, m, h => by
    unfold bindL
    rw [bindL_skip (fun z hz => h z (List.mem_cons_of_mem _ hz))]
    split
    · exact if_neg (Ne.symm (h (y, v) List.mem_cons_self))
    · rfl
theorem bindL_get {kindOf : Str → Option NameKind} {x : Str} (hk : kindOf x = some .local) : ∀ {names : List Str} {vals : List Value} {m : Str → Option Value} {i : Nat} {v : Value}, names.Nodup → names[i]? = some x → vals[i]? = some v → bindL kindOf (names.zip vals) m x = some v
  | [], _, _, i, _, _, h, _ => by simp at h
  | _ :: _, [], _, i, _, _, _, h => by simp at h
  | y :: ys, u :: us, m, i, v, hn, hx, hv => by
    obtain ⟨h1, h2⟩ := List.nodup_cons.mp hn
    rw [List.zip_cons_cons]
    unfold bindL
    cases i with
    | zero =>
      simp at hx hv
      subst hx hv
      rw [bindL_skip (fun z hz q => h1 (by have := (List.of_mem_zip (show (z.1, z.2) ∈ _ from hz)).1; rwa [q] at this)), if_pos hk]
      exact if_pos rfl
    | succ i =>
      simp at hx hv
      exact bindL_get hk h2 hx hv
theorem bindC_skip {kindOf : Str → Option NameKind} {x : Str} : ∀ {b : List (Str × Value)} {m : Str → Option Value}, (∀ y ∈ b, y.1 ≠ x) → bindC kindOf b m x = m x
  | [], _, _ => rfl
  | (y, v) :: r, m, h => by
    unfold bindC
    rw [bindC_skip (fun z hz => h z (List.mem_cons_of_mem _ hz))]
    split
    · rfl
    · exact if_neg (Ne.symm (h (y, v) List.mem_cons_self))
theorem bindC_get {kindOf : Str → Option NameKind} {x : Str} (hk : kindOf x ≠ some .local) : ∀ {names : List Str} {vals : List Value} {m : Str → Option Value} {i : Nat} {v : Value}, names.Nodup → names[i]? = some x → vals[i]? = some v → bindC kindOf (names.zip vals) m x = some v
  | [], _, _, i, _, _, h, _ => by simp at h
  | _ :: _, [], _, i, _, _, _, h => by simp at h
  | y :: ys, u :: us, m, i, v, hn, hx, hv => by
    obtain ⟨h1, h2⟩ := List.nodup_cons.mp hn
    rw [List.zip_cons_cons]
    unfold bindC
    cases i with
    | zero =>
      simp at hx hv
      subst hx hv
      rw [bindC_skip (fun z hz q => h1 (by have := (List.of_mem_zip (show (z.1, z.2) ∈ _ from hz)).1; rwa [q] at this)), if_neg hk]
      exact if_pos rfl
    | succ i =>
      simp at hx hv
      exact bindC_get hk h2 hx hv
theorem mem_filterMap_lookup {cs : List (Str × Addr)} {vars : List Str} {a : Addr} (h : a ∈ vars.filterMap fun x => cs.lookup x) : ∃ x, cs.lookup x = some a := by
  obtain ⟨x, _, e⟩ := List.mem_filterMap.mp h; exact ⟨x, e⟩
structure FnIs (c : Cx) (fa : Addr) (fd : FuncData) (body : List Stmt) (names others : List Str) : Prop where
  at_ : ∃ oc od osl, c.K.lookup fa = some ⟨oc, od, .func fd, osl⟩
  body : fd.body = .stmts body
  clo : fd.closure = []
  globals : fd.globals = mainGlobals
  builtins : fd.builtins = builtinsNs
  code : codeIn c.K fd.code fd.qualname = true
  co : fd.scope.isCoroutine = false
  gen : fd.scope.isGenerator = false
  kind : fd.scope.kind = .function
  bind : ∀ vals : List Value, vals.length = names.length → bindArgs fd ⟨vals, []⟩ = pure (names.zip vals)
  kinds : ((names ++ others).all fun x => fd.scope.names.lookup x == some .local || fd.scope.names.lookup x == some .cell) = true
  nodup : (names ++ others).Nodup
theorem fn_okG (G : Gd c) {fa : Addr} {fd : FuncData} {body : List Stmt} {names others : List Str} {g : Cm AF} {fnl : List AV → AV → Cm AV} (FO : FinOk c fnl) (D : FnIs c fa fd body names others)
    (hS : ImplS c n ⟨fd.scope, names ++ others, names ++ others⟩ body g) : ImplF c (n + 1) fa (runFnG fnl names.length others.length g) := by
  intro A W st s hr H vs xs hv v st' e R hR
  obtain ⟨oc, od, osl, hK⟩ := D.at_
  have ho := H.keep _ _ (G.inK _ _ hK)
  unfold runFnG at e
  by_cases hlen : xs.length = names.length
  case neg => rw [if_neg hlen] at e; cases e
  rw [if_pos hlen] at e
  have hlv : vs.length = names.length := by rw [hv.length, hlen]
  have hkinds : ∀ x, x ∈ names ++ others → fd.scope.names.lookup x = some .local ∨ fd.scope.names.lookup x = some .cell := fun x hx => by
    have := List.all_eq_true.mp D.kinds x hx
    simpa using this
  have hcell : ∀ x, x ∈ names ++ others → fd.scope.names.lookup x = some .cell → ∀ m, ((cellsFrom m fd.scope.names []).lookup x).isSome = true := fun x _ hx m => cellsFrom_some _ _ _ (.inl hx)
  refine codeAny_call_cells hr.depth ho rfl (G.nolimit.keeps H.keep) (codeRec_of (K := c.K) (fun a o q => H.keep _ _ (G.inK a o q)) D.code) D.body (D.bind vs hlv) D.clo ?_ (fun s1 x1 => ?_) D.co D.gen D.kind
  · intro x hx
    have hm := (List.of_mem_zip (show (x.1, x.2) ∈ names.zip vs from hx)).1
    rcases hkinds x.1 (List.mem_append_left _ hm) with q | q
    · exact .inl q
    · exact .inr ⟨q, hcell _ (List.mem_append_left _ hm) q _⟩
  · -- the new frame
    let env := callEnvC fd s.heap.objs.size fa
    let p : Pl := ⟨A.deeper env, ⟨fd.scope, names ++ others, names ++ others⟩, env, (names ++ others).filterMap fun x => env.cells.lookup x⟩
    have hL : env.locals = s.heap.objs.size := rfl
    have hnL : s.heap.get? s.heap.objs.size = .none := get_none_of_ge (Nat.le_refl _)
    have hnC : ∀ y a, env.cells.lookup y = some a → s.heap.get? a = .none := fun y a q => get_none_of_ge (Nat.le_of_lt (x1.above y a (mem_of_lookup q)))
    obtain ⟨h1, tk1, rfl⟩ := x1.toInCall.same
    have k1 := x1.toInCall.keep
    have I1 : Inv c p W { st with loc := xs ++ List.replicate others.length .unb, lst := [] :: st.lst } { s with heap := h1, toks := tk1 } := by
      refine ⟨⟨fun a o q => k1 _ _ (H.keep a o q), H.mutA, fun a => (H.lt a).imp id fun ⟨o, q⟩ => ⟨o, k1 a o q⟩, fun a o q => k1 _ _ (H.frz a o q), H.ni, H.nl, H.iaR, fun k i q => ?_, fun gg hg pp hp => ?_, ?_⟩, ?_⟩
      · obtain ⟨es, m, e1, e2, r⟩ := H.insA k i q
        exact ⟨es, m, k1 _ _ e1, k1 _ _ e2, r⟩
      · rcases List.mem_cons.mp hg with q | hg
        · subst q; cases hp
        · obtain ⟨q1, q2, us, m, q3, q4⟩ := H.lstA gg hg pp hp
          exact ⟨q1, q2, us, m, k1 _ _ q3, q4⟩
      · show ((([] : List (Nat × List AV)) ++ st.lst.flatten).map (·.1)).Nodup
        exact H.nodup
      · refine ⟨⟨_, x1.toInCall.ns, fun i x u a1 a2 a3 a4 => ?_⟩, fun i x u a1 a2 a3 a4 => ?_, fun y a q => ⟨_, x1.cell y a q⟩, fun x hx hk => ?_, hkinds, x1.apart, fun a ha => mem_filterMap_lookup ha, H.oth_of_none hnL, fun y a q => ⟨H.oth_of_none (hnC y a q), Nat.ne_of_gt (x1.above y a (mem_of_lookup q)), H.base_none (hnC y a q)⟩, H.base_none hnL, rfl, D.kind, D.globals, D.builtins, D.nodup⟩
        · have hi : i < names.length := by
            rcases Nat.lt_or_ge i names.length with q | q
            · exact q
            · exfalso
              rw [List.getElem?_append_right (by omega)] at a2
              rw [List.getElem?_replicate] at a2
              split at a2
              · cases a2; exact a3 rfl
              · cases a2
          rw [List.getElem?_append_left hi] at a1
          rw [List.getElem?_append_left (by omega)] at a2
          obtain ⟨w, b1, b2⟩ := hv.get a2
          exact ⟨w, bindL_get a4 (List.nodup_append.mp D.nodup).1 a1 b1, b2⟩
        · have hi : i < names.length := by
            rcases Nat.lt_or_ge i names.length with q | q
            · exact q
            · exfalso
              rw [List.getElem?_append_right (by omega)] at a2
              rw [List.getElem?_replicate] at a2
              split at a2
              · cases a2; exact a3 rfl
              · cases a2
          rw [List.getElem?_append_left hi] at a1
          rw [List.getElem?_append_left (by omega)] at a2
          obtain ⟨w, b1, b2⟩ := hv.get a2
          obtain ⟨a, q⟩ := Option.isSome_iff_exists.mp (hcell x (List.mem_append_left _ (List.mem_of_getElem? a1)) a4 (s.heap.objs.size + 1))
          have := x1.cell x a q
          rw [bindC_get (by rw [a4]; intro z; cases z) (List.nodup_append.mp D.nodup).1 a1 b1] at this
          exact ⟨w, a, q, this, b2⟩
        · obtain ⟨a, q⟩ := Option.isSome_iff_exists.mp (hcell x hx hk (s.heap.objs.size + 1))
          exact ⟨a, q, fun _ => List.mem_filterMap.mpr ⟨x, hx, q⟩⟩
    have hown : ∀ a, p.Own a → s.heap.get? a = .none := fun a ha => by
      rcases ha with rfl | ha
      · exact hnL
      · obtain ⟨x, q⟩ := mem_filterMap_lookup ha; exact hnC x a q
    have fin : ∀ (fl : Flow) (u : AV) (st1 : AS), fnl st.loc u st1 = some (v, st') →
        ∀ W1 s2, Ext p.Own W { s with heap := h1, toks := tk1 } W1 s2 → Inv c p W1 st1 s2 → VR W1 (match fl with | .ret w => w | _ => .none) u → R (.ok (.ret (match fl with | .ret w => w | _ => .none))) s2 := by
      intro fl u st1 e' W1 s2 x2 I2 r2
      obtain ⟨W2, l2, h2, r3, o2⟩ := FO W1 st1 st' s2.heap st.loc u v _ e' I2.hr r2
      exact hR W2 _ s2 ⟨x2.le.trans l2, fun a o q => x2.alive a o (k1 a o q), fun a o q z => o2 a (x2.oth a o (k1 a o q) z), fun a o hm _ q => x2.kept a o hm (fun z => by rw [hown a z] at q; cases q) (k1 a o q), x2.gens, x2.os⟩ h2 r3
    have body := hS p rfl (hr.deeper env) W W _ _ (Le.refl _) I1
    refine wpAny_noRaise ?_
    split at e
    · rename_i u st1 hg
      refine body _ _ hg _ _ fun W1 fl s2 x2 I2 r2 => ?_
      cases r2 with
      | ret r2 => exact fin (.ret _) u st1 e W1 s2 x2 I2 r2
    · rename_i st1 hg
      refine body _ _ hg _ _ fun W1 fl s2 x2 I2 r2 => ?_
      cases r2 with
      | next => exact fin .next .none st1 e W1 s2 x2 I2 .none
    · cases e
theorem endFn_ok : FinOk c endFn := by
  intro W st st' h loc u v val e H r
  unfold endFn at e
  split at e
  · rename_i seg r' hseg
    cases e
    exact ⟨W.freeze seg h, Le.freeze .., (H.freezeSeg hseg).loc _, frzV_ok H hseg r, fun a z => by rw [freeze_role (by intro k zz; rw [z] at zz; cases zz)]; exact z⟩
  · cases e
theorem fn_ok (G : Gd c) {fa : Addr} {fd : FuncData} {body : List Stmt} {names others : List Str} {g : Cm AF} (D : FnIs c fa fd body names others)
    (hS : ImplS c n ⟨fd.scope, names ++ others, names ++ others⟩ body g) : ImplF c (n + 1) fa (runFn names.length others.length g) := fn_okG G endFn_ok D hS
noncomputable def OkCall (c : Cx) (n : Nat) (f : Value) (F : List AV → Cm AV) : Prop := ∀ p : Pl, Room n p.A → ∀ W0 vs xs, VRs W0 vs xs → Ok c p W0 (call f vs) VR (F xs)
noncomputable def callM (F : List AV → Cm AV) (xs : List AV) : Cm AV := fun st => match F xs st with
  | some (v, st') => some (v, { st' with loc := st.loc })
  | .none => .none
theorem ImplF.call {fa : Addr} {F : List AV → Cm AV} (h : ImplF c n fa F) : OkCall c n (.ref fa) (callM F) := by
  intro p hr W0 vs xs hv W st s hle I b st' e Q E hQ
  unfold callM at e
  split at e
  · rename_i v st1 hF
    cases e
    refine wpAny_call (h p.A W st s hr I.hr vs xs (hv.mono hle) _ _ hF _ fun W' val s' x H r => ?_)
    exact hQ W' val s' (x.weaken fun _ q => q.elim) ⟨H.loc _, I.fr.ext x (fun q => q) fun _ _ _ q => q⟩ r
  · cases e
theorem evalArgs_row {M : Model} {A : Around} {E : Value → Shared → Prop} {s : Shared} {f : Value} {env : Env} {pos : Pos} {es : List Expr} {Q : Args → Shared → Prop} (hp : es.all plainX = true)
    (h : wpAny M A (spliced (backTo pos (starEach es env))) (fun vs s' => Q ⟨vs, []⟩ s') E s) : wpAny M A (evalArgs f true (backTo pos (starEach es env)) []) Q E s := by
  cases es with
  | nil =>
    unfold evalArgs
    show wpAny M A (spliced [] >>= _) Q E s
    exact wpAny_bind (wpAny_mono h (fun vs s' h' => wpAny_bind (wpAny_pure (wpAny_holding (wpAny_bind (wpAny_pure (wpAny_bind (wpAny_pure (wpAny_pure h')))))))) fun _ _ x => x)
  | cons e r =>
    have he : plainX e = true := (Bool.and_eq_true_iff.mp (List.all_cons ▸ hp)).1
    rw [star_plain he] at h ⊢
    exact Calls.evalArgs_plain h
theorem any_false {es : List Expr} {env : Env} {pos : Pos} (hp : es.all plainX = true) : (backTo pos (starEach es env)).any (·.1) = false := by
  induction es with
  | nil => rfl
  | cons e r ih =>
    obtain ⟨h1, h2⟩ := Bool.and_eq_true_iff.mp (List.all_cons ▸ hp)
    rw [star_plain h1]
    show (false || (backTo pos (starEach r env)).any (·.1)) = false
    rw [ih h2]; rfl
theorem ImplE.callFn (G : Gd c) {x : Str} {p0 pos : Pos} {es : List Expr} {fa : Addr} {fs : Cm (List AV)} {F : List AV → Cm AV} (hx : sx.sc.names.lookup x = some .globalImplicit) (hg : c.Glob x (.ref fa))
    (hfn : ∃ oc od fd osl, c.K.lookup fa = some ⟨oc, od, .func fd, osl⟩) (h1 : ImplEs c n sx es fs) (h2 : ImplF c n fa F) (hd : (x == ("__debug__" : Str)) = false := by decide) (hp : es.all plainX = true := by rfl) :
    ImplE c n sx (.Call (.Name x p0) es [] pos) (bd fs (callM F)) := by
  intro p hsx hr W0 W st s hle I b st' e Q E hQ
  obtain ⟨xs, st1, e1, e2⟩ := bd_some e
  obtain ⟨oc, od, fd, osl, hK⟩ := hfn
  refine Call_ (load_glob G I (by rw [hsx]; exact hx) hg hd ?_)
  refine Calls.callWith_function (o := ⟨oc, od, .func fd, osl⟩) (fd := fd) (evalArgs_row hp ?_)
  refine h1 p hsx hr W pos W st s (Le.refl _) I xs st1 e1 _ E fun W1 vs s1 x1 I1 r1 => ?_
  refine ⟨⟨I1.hr.keep _ _ (G.inK _ _ hK), rfl⟩, ?_⟩
  exact h2.call p hr W1 vs xs r1 W1 st1 s1 (Le.refl _) I1 b st' e2 Q E fun W2 v s2 x2 I2 r2 => hQ W2 v s2 (x1.trans x2) I2 r2
theorem ImplE.callB (G : Gd c) {x : Str} {p0 pos : Pos} {es : List Expr} {id : String} {fs : Cm (List AV)} {F : List AV → Cm AV} (hx : sx.sc.names.lookup x = some .globalImplicit) (hg : c.Glob x (.builtin id))
    (h1 : ImplEs c n sx es fs) (h2 : OkCall c n (.builtin id) F) (hd : (x == ("__debug__" : Str)) = false := by decide) (hp : es.all plainX = true := by rfl) :
    ImplE c n sx (.Call (.Name x p0) es [] pos) (bd fs F) := by
  intro p hsx hr W0 W st s hle I b st' e Q E hQ
  obtain ⟨xs, st1, e1, e2⟩ := bd_some e
  refine Call_ (load_glob G I (by rw [hsx]; exact hx) hg hd ?_)
  refine Calls.callWith_builtin (any_false hp) (evalArgs_row hp ?_)
  refine h1 p hsx hr W pos W st s (Le.refl _) I xs st1 e1 _ E fun W1 vs s1 x1 I1 r1 => ?_
  exact h2 p hr W1 vs xs r1 W1 st1 s1 (Le.refl _) I1 b st' e2 Q E fun W2 v s2 x2 I2 r2 => hQ W2 v s2 (x1.trans x2) I2 r2
end
end Mine

namespace Mine

structure Cls (c : Cx) : Prop where
  makes : makesIn c.K c.C = true
  ga : findIn c.K (.ref c.C) "__getattribute__" = some (some (.builtin "object.__getattribute__"))
  gat : findIn c.K (.ref c.C) "__getattr__" = some .none
  sa : findIn c.K (.ref c.C) "__setattr__" = some (some (.builtin "object.__setattr__"))
  plain : plainOver c.K c.C = true
  hasDict : hasDictIn c.K c.C = true
  fields : ∀ f : Fd, findIn c.K (.ref c.C) (fkey f) = some .none
  keep : keepIn c.K (.ref c.C) = true
section
variable {c : Cx} {n : Nat} {sx : Sx}

theorem HR.inK (G : Gd c) {W : Wd} {st : AS} {h : Heap} (H : HR c W st h) : c.K.In h := fun a o e => H.keep a o (G.inK a o e)
theorem HR.instAt {W : Wd} {st : AS} {h : Heap} (H : HR c W st h) {k : Nat} {i : Ins} (e : st.ins[k]? = some i) : ∃ es m, InstAt h (W.ia k) (instObj c.C (W.da k)) c.C (some (dictOf es m)) ∧ FieldsAre W es i := by
  obtain ⟨es, m, e1, e2, r⟩ := H.insA k i e
  exact ⟨es, m, ⟨e1, rfl, rfl, e2⟩, r⟩
theorem set_raw (C : Cls c) {A : Around} {E : Value → Shared → Prop} {s : Shared} {x d : Addr} {es : List DictEntry} {m : Nat} {name : Str} {v : Value} {Q : Unit → Shared → Prop} (X : c.K.In s.heap)
    (I : InstAt s.heap x (instObj c.C d) c.C (some (dictOf es m))) (hf : findIn c.K (.ref c.C) name = some .none) (hl : (PySem.W.getL name es).isSome = true) (hz : (PySem.W.putL name (PyData.keyHash c.w.params name) (.str name (s.toks + 1)) v es).length ≤ 1000)
    (h : ∀ h', h'.get? d = some (dictOf (PySem.W.putL name (PyData.keyHash c.w.params name) (.str name (s.toks + 1)) v es) (putN name es m)) → Heap.SameBut d s.heap h' → Q () { s with heap := h', toks := s.toks + 2 }) :
    wpAny (model c.prog c.w) A (setAttr (.ref x) name v) Q E s := by
  refine set_plain X I C.sa ?_
  refine osa_open (s := { s with toks := s.toks + 1 }) X I C.plain (r := .none) (by unfold takerIn; rw [hf]; rfl) fun b => ?_
  obtain ⟨cd, hc, hd'⟩ := any_some C.hasDict
  have D : s.heap.get? d = some (dictOf es m) := I.dict
  have D' : (s.heap.update d (Obj.putName name (PyData.keyHash c.w.params name) (.str name (s.toks + 1)) v)).get? d = some (dictOf (PySem.W.putL name (PyData.keyHash c.w.params name) (.str name (s.toks + 1)) v es) (putN name es m)) := by
    rw [← putName_dict]
    exact Heap.get?_update_self _ D (by rw [putName_dict]; rfl)
  refine wpAny_bind (wpAny_pure (wpAny_bind (wpAny_bind (wpAny_loadPart I.at_ (wpAny_bind (looks_clsIn X hc _ _ _ _ (fun _ _ e => e) ?_))))))
  rw [hd']
  refine wpAny_pure (a := some d) (wpAny_bind (wpAny_pure (wpAny_bind ?_)))
  unfold nsSet
  refine wpAny_bind (wpAny_bind (wpAny_askSetting (wpAny_pure (wpAny_bind (wpAny_mkText (wpAny_bind (wpAny_loadPart D ?_)))))))
  dsimp only
  have cc : (!es.toArray.any (·.key.isStr name) && es.toArray.any (·.refKey)) = false := by
    rw [← Array.any_toList, ← Array.any_toList]
    unfold PySem.W.getL at hl
    split at hl
    · rename_i en he
      rw [List.any_eq_true.mpr ⟨en, List.mem_of_find?_eq_some he, List.find?_some he⟩]; rfl
    · split at hl
      · cases hl
      · rename_i z; rw [Bool.not_eq_true] at z; rw [z, Bool.and_false]
  rw [aRefKeyMayBeTheName_at, cc]
  refine wpAny_updatePart D ?_
  refine wpAny_bind (wpAny_lookBehind D' (pastItsLine_dict (by rw [List.size_toArray, sizeLine_eq]; omega)) ?_)
  exact wpAny_pure (h _ D' (Heap.SameBut.update ..))
noncomputable def attrM (f : Fd) : AV → Cm AV := fun o => match o with
  | .ins k => fun st => (match st.ins[k]? with | some i => some (i.get f, st) | .none => .none)
  | _ => no
noncomputable def putM (f : Fd) : AV → AV → Cm Unit := fun o v => match o with
  | .ins k => fun st => (match st.ins[k]? with | some i => some ((), { st with ins := st.ins.set k (i.put v f) }) | .none => .none)
  | _ => no
theorem attr_ok (G : Gd c) (C : Cls c) {p : Pl} {W0 : Wd} {f : Fd} {o : Value} {x : AV} (hv : VR W0 o x) : Ok c p W0 (getAttr o (fkey f) true) VR (attrM f x) := by
  intro W st s hle I b st' e Q E hQ
  cases hv.mono hle with
  | ins k hk =>
    simp only [attrM] at e
    split at e
    · rename_i i hi
      cases e
      obtain ⟨es, m, J, r⟩ := I.hr.instAt hi
      obtain ⟨v, hl, rv⟩ := r.get f
      refine get_value (I.hr.inK G) J C.ga (findObj_own C.hasDict (C.fields f) rfl hl) rv.handed ?_
      exact hQ W v _ ((Ext.refl ..).toks _) (I.toks _) rv
    · cases e
  | _ => cases e
theorem HR.dct {W : Wd} {st : AS} {h h' : Heap} {k : Nat} {i : Ins} {es : List DictEntry} {m : Nat} (H : HR c W st h) (hi : ∃ i0, st.ins[k]? = some i0) (hd : h'.get? (W.da k) = some (dictOf es m)) (hs : Heap.SameBut (W.da k) h h') (hf : FieldsAre W es i) :
    HR c W { st with ins := st.ins.set k i } h' := by
  obtain ⟨i0, hi⟩ := hi
  have hk : k < W.ni := by rw [H.ni]; exact (List.getElem?_eq_some_iff.mp hi).1
  obtain ⟨r1, r2⟩ := H.iaR k hk
  have hm : W.Mut (W.da k) := by unfold Wd.Mut; rw [r2]; trivial
  have kp : ∀ a o, a ≠ W.da k → h.get? a = some o → h'.get? a = some o := fun a o ha e => hs.extBut a o ha e
  refine ⟨fun a o e => kp a o (fun q => ?_) (H.keep a o e), H.mutA, fun a => ?_, fun a o e => kp a o (fun q => ?_) (H.frz a o e), ?_, H.nl, H.iaR, fun j y e => ?_, fun g hg q hq => ?_, H.nodup⟩
  · rw [q, H.mutA _ hm] at e; cases e
  · rcases Classical.em (a = W.da k) with q | q
    · subst q; exact .inr ⟨_, hd⟩
    · exact (H.lt a).imp id fun ⟨o, z⟩ => ⟨o, kp a o q z⟩
  · rw [q, r2] at e; cases e
  · show W.ni = (st.ins.set k i).length; rw [List.length_set]; exact H.ni
  · have e' : (st.ins.set k i)[j]? = some y := e
    rw [List.getElem?_set] at e'
    by_cases hkj : k = j
    · subst hkj
      rw [if_pos rfl] at e'
      split at e'
      · cases e'
        obtain ⟨es0, m0, e1, e2, _⟩ := H.insA k i0 hi
        exact ⟨es, m, kp _ _ (fun q => by rw [q, r2] at r1; cases r1) e1, hd, hf⟩
      · cases e'
    · rw [if_neg hkj] at e'
      obtain ⟨es0, m0, e1, e2, r⟩ := H.insA j y e'
      have hj : j < W.ni := by rw [H.ni]; exact (List.getElem?_eq_some_iff.mp e').1
      obtain ⟨s1, s2⟩ := H.iaR j hj
      exact ⟨es0, m0, kp _ _ (fun q => by rw [q, r2] at s1; cases s1) e1, kp _ _ (fun q => by rw [q, r2] at s2; cases s2; exact hkj rfl) e2, r⟩
  · obtain ⟨h1, h2, vs, m0, h3, h4⟩ := H.lstA g hg q hq
    exact ⟨h1, h2, vs, m0, kp _ _ (fun z => by rw [z, r2] at h2; cases h2) h3, h4⟩
theorem Ext.change {own : Addr → Prop} {W : Wd} {s : Shared} {a : Addr} {h' : Heap} {tk : Nat} (hm : W.Mut a) (hs : Heap.SameBut a s.heap h') (ha : ∃ o, h'.get? a = some o) : Ext own W s W { s with heap := h', toks := tk } :=
  ⟨Le.refl W, fun b o e => by
      rcases Classical.em (b = a) with q | q
      · subst q; exact ha
      · exact ⟨o, hs.extBut b o q e⟩,
    fun _ _ _ e => e, fun b o hb _ e => hs.extBut b o (fun q => hb (q ▸ hm)) e, rfl, rfl⟩
theorem FrV.change {p : Pl} {W : Wd} {loc : List AV} {h h' : Heap} {a : Addr} (F : FrV c p W loc h) (hm : W.Mut a) (hs : Heap.SameBut a h h') : FrV c p W loc h' :=
  F.grow fun b o hb e => hs.extBut b o (fun q => by
    subst q
    rcases hb with hb | ⟨x, hb⟩
    · unfold Wd.Mut at hm; rw [hb, F.roleL] at hm; exact hm
    · unfold Wd.Mut at hm; rw [(F.roleC x b hb).1] at hm; exact hm) e
theorem put_ok (G : Gd c) (C : Cls c) {p : Pl} {W0 : Wd} {f : Fd} {o val : Value} {x v : AV} (ho : VR W0 o x) (hv : VR W0 val v) : Ok c p W0 (setAttr o (fkey f) val) (fun _ _ _ => True) (putM f x v) := by
  intro W st s hle I b st' e Q E hQ
  cases ho.mono hle with
  | ins k hk =>
    simp only [putM] at e
    split at e
    · rename_i i hi
      cases e
      obtain ⟨es, m, J, r⟩ := I.hr.instAt hi
      obtain ⟨v0, hl, _⟩ := r.get f
      have hm : W.Mut (W.da k) := by unfold Wd.Mut; rw [(I.hr.iaR k hk).2]; trivial
      have r' := r.put f (hv.mono hle) (PyData.keyHash c.w.params (fkey f)) (.str (fkey f) (s.toks + 1))
      refine set_raw C (I.hr.inK G) J (C.fields f) (by rw [hl]; rfl) (by rw [r'.len]; decide) fun h' hd hs => ?_
      exact hQ W () _ (Ext.change hm hs ⟨_, hd⟩) ⟨I.hr.dct ⟨i, hi⟩ hd hs r', I.fr.change hm hs⟩ trivial
    · cases e
  | _ => cases e
theorem ImplE.attr (G : Gd c) (C : Cls c) {o : Expr} {pos : Pos} {f : Fd} {g : Cm AV} (h : ImplE c n sx o g) (hb : ∀ env t, attributeBase o (fkey f) env t = t := by intro _ _; rfl) : ImplE c n sx (.Attribute o (fkey f) pos) (bd g (attrM f)) := by
  intro p hsx hr W0 W st s hle I b st' e Q E hQ
  obtain ⟨x, st1, e1, e2⟩ := bd_some e
  refine Attribute_any_ (h p hsx hr W W st s (Le.refl _) I x st1 e1 _ E fun W1 v s1 x1 I1 r1 => ?_) (by rw [arm_eval_Attribute, hb])
  exact attr_ok G C r1 W1 st1 s1 (Le.refl _) I1 b st' e2 Q E fun W2 v s2 x2 I2 r2 => hQ W2 v s2 (x1.trans x2) I2 r2
theorem ImplA.attr (G : Gd c) (C : Cls c) {o : Expr} {pos : Pos} {f : Fd} {g : Cm AV} (h : ImplE c n sx o g) : ImplA c n sx (.Attribute o (fkey f) pos) (fun v => bd g fun x => putM f x v) := by
  intro p hsx hr W0 val v hv W st s hle I b st' e Q E hQ
  obtain ⟨x, st1, e1, e2⟩ := bd_some e
  show wpAny _ _ (do
    let ov ← holding [val] (eval o p.env)
    standAt pos.atName
    holding [val, ov] (setAttr ov (fkey f) val)
    release [val, ov] []) Q E s
  refine wpAny_bind (wpAny_holding (h p hsx hr W W st s (Le.refl _) I x st1 e1 _ E fun W1 ov s1 x1 I1 r1 => ?_))
  refine wpAny_bind (wpAny_standAt (wpAny_bind (wpAny_holding ?_)))
  refine put_ok G C r1 ((hv.mono hle).mono x1.le) W1 st1 s1 (Le.refl _) I1 b st' e2 _ E fun W2 u s2 x2 I2 r2 => ?_
  exact wpAny_release (hQ W2 _ s2 (x1.trans x2) I2 trivial)
noncomputable def getF (f : Fd) : List AV → Cm AV := fun xs => match xs with
  | [o] => attrM f o
  | _ => no
noncomputable def setF (f : Fd) : List AV → Cm AV := fun xs => match xs with
  | [o, v] => bd (putM f o v) fun _ => pu .none
  | _ => no
theorem attrM_spec {f : Fd} {o v : AV} {st st' : AS} (h : attrM f o st = some (v, st')) : ∃ k i, o = .ins k ∧ st.ins[k]? = some i ∧ v = i.get f ∧ st' = st := by
  cases o <;> simp only [attrM, no] at h <;> try cases h
  split at h
  · rename_i i hi; cases h; exact ⟨_, i, rfl, hi, rfl, rfl⟩
  · cases h
theorem putM_spec {f : Fd} {o v : AV} {st st' : AS} {u : Unit} (h : putM f o v st = some (u, st')) : ∃ k i, o = .ins k ∧ st.ins[k]? = some i ∧ st' = { st with ins := st.ins.set k (i.put v f) } := by
  cases o <;> simp only [putM, no] at h <;> try cases h
  split at h
  · rename_i i hi; cases h; exact ⟨_, i, rfl, hi, rfl⟩
  · cases h
theorem frz0_nil (v : AV) : frz0 [] v = v := by cases v <;> rfl
theorem frzV_nil (v : AV) : frzV [] v = v := by
  cases v with
  | tup vs =>
    simp only [frzV]
    congr 1
    induction vs with
    | nil => rfl
    | cons a r ih => rw [List.map_cons, frz0_nil, ih]
  | _ => rfl
theorem getter_ok (G : Gd c) (C : Cls c) {fa : Addr} {fd : FuncData} {x : Str} {f : Fd} {p1 p2 p3 : Pos} (D : FnIs c fa fd [.Return (some (.Attribute (.Name x p1) (fkey f) p2)) p3] [x] []) (hd : (x == ("__debug__" : Str)) = false) : ImplF c (n + 1) fa (getF f) := by
  refine (fn_ok (n := n) G D (ImplS.cons (ImplS1.ret (ImplE.attr G C (ImplE.name (i := 0) rfl hd))) ImplS.nil)).sub fun xs st b st' e => ?_
  unfold getF at e
  split at e
  · rename_i o
    obtain ⟨k, i, rfl, hi, rfl, rfl⟩ := attrM_spec e
    simp [runFn, runFnG, thenM, retM, bd, var, attrM, pu, endFn, hi, frzV_nil]
  · cases e
theorem VR.notU {W : Wd} {v : Value} {x : AV} (h : VR W v x) : x ≠ .unb := by intro q; subst q; cases h
theorem setter_ok (G : Gd c) (C : Cls c) {fa : Addr} {fd : FuncData} {x y : Str} {f : Fd} {p1 p2 p3 p4 : Pos} (D : FnIs c fa fd [.Assign [.Attribute (.Name x p1) (fkey f) p2] (.Name y p3) p4] [x, y] [])
    (hd : (x == ("__debug__" : Str)) = false) (hd' : (y == ("__debug__" : Str)) = false) : ImplF c (n + 1) fa (setF f) := by
  intro A W st s hr H vs xs hv v st' e R hR
  refine fn_ok (n := n) G D (ImplS.cons (ImplS1.assign (ImplE.name (i := 1) rfl hd') (ImplA.attr G C (ImplE.name (i := 0) rfl hd))) ImplS.nil) A W st s hr H vs xs hv v st' ?_ R hR
  unfold setF at e
  split at e
  · rename_i o w
    obtain ⟨u, st2, e3, e4⟩ := bd_some e
    cases e4
    obtain ⟨k, i, rfl, hi, rfl⟩ := putM_spec e3
    have hw : w ≠ .unb := by
      cases hv with
      | cons _ h2 =>
        cases h2 with
        | cons h3 _ => exact h3.notU
    have w1 : ∀ st : AS, st.loc[1]? = some w → var 1 st = some (w, st) := fun st q => var_get q hw
    have w0 : ∀ st : AS, st.loc[0]? = some (.ins k) → var 0 st = some (.ins k, st) := fun st q => var_get q nofun
    simp [runFn, runFnG, thenM, asgM, bd, w1, w0, putM, pu, endFn, hi, frzV_nil]
  · cases e
structure MethIs (c : Cx) (m : Str) (fa : Addr) : Prop where
  find : findIn c.K (.ref c.C) m = some (some (.ref fa))
  typ : typeIn c.K (.ref fa) = some (.type "function")
  fn : ∃ oc od fd osl, c.K.lookup fa = some ⟨oc, od, .func fd, osl⟩
  other : ∀ f : Fd, (fkey f == m) = false
theorem FieldsAre.miss {W : Wd} {es : List DictEntry} {i : Ins} (h : FieldsAre W es i) {m : Str} (hm : ∀ f : Fd, (fkey f == m) = false) : PySem.W.getL m es = some .none := by
  cases h with
  | mk a b c d e => simp only [PySem.W.getL, List.find?, Value.isStr, hm, List.any_cons, List.any_nil, DictEntry.refKey]; rfl
noncomputable def methM (o : Cm AV) (args : Cm (List AV)) (F : List AV → Cm AV) : Cm AV := bd o fun x => match x with
  | .ins k => bd args fun ys => callM F (.ins k :: ys)
  | _ => no
theorem ImplE.meth (G : Gd c) (C : Cls c) {o : Expr} {m : Str} {apos pos : Pos} {es : List Expr} {fa : Addr} {fo : Cm AV} {fs : Cm (List AV)} {F : List AV → Cm AV} (M : MethIs c m fa) (h0 : ImplE c n sx o fo) (h1 : ImplEs c n sx es fs) (h2 : ImplF c n fa F)
    (hb : ∀ env t, attributeBase o m env t = t := by intro _ _; rfl) (hp : es.all plainX = true := by rfl) (hl : (apos.endLine == pos.line) = true := by rfl) (hfew : decide (es.length < 30) = true := by rfl) :
    ImplE c n sx (.Call (.Attribute o m apos) es [] pos) (methM fo fs F) := by
  intro p hsx hr W0 W st s hle I b st' e Q E hQ
  obtain ⟨x, st1, e1, e2⟩ := bd_some e
  obtain ⟨oc, od, fd, osl, hK⟩ := M.fn
  rw [arm_eval_Call, hb]
  refine wpAny_bind (h0 p hsx hr W W st s (Le.refl _) I x st1 e1 _ E fun W1 ov s1 x1 I1 r1 => wpAny_bind (wpAny_standAt ?_))
  cases r1 with
  | ins k hk =>
    obtain ⟨ys, st2, e3, e4⟩ := bd_some e2
    have hform : methodCallForm (es.length + ([] : List Keyword).length) (backTo pos (starEach es p.env)) (backToKw pos (keywordEach [] p.env)) = true := by
      unfold methodCallForm
      have h1 : (backTo pos (starEach es p.env)).all (fun x => !x.1) = true := by
        have := any_false (env := p.env) (pos := pos) hp
        rw [List.all_eq_not_any_not]; simpa using this
      rw [h1]
      show (true && true && decide (es.length + 0 + 0 < 30)) = true
      simpa using hfew
    have hpos : methodCallPos true o p.env apos pos = pure pos := by unfold methodCallPos; simp [hl]
    unfold methodCall
    rw [hform]
    have hi : ∃ i, st1.ins[k]? = some i := by
      have : k < st1.ins.length := by rw [← I1.hr.ni]; exact hk
      exact ⟨_, List.getElem?_eq_getElem this⟩
    obtain ⟨i, hi⟩ := hi
    obtain ⟨ess, mm, J, r⟩ := I1.hr.instAt hi
    refine wpAny_bind (wpAny_holding ?_)
    show wpAny _ _ (getMethod (.ref (W1.ia k)) m _) _ _ _
    refine method_fn (I1.hr.inK G) J C.ga C.gat M.find M.typ (by show (lookIn m (dictOf ess mm)).map _ = _; rw [lookIn_dict, r.miss M.other]; rfl) ?_
    refine wpAny_bind (wpAny_of_eq hpos ?_)
    refine Calls.callWith_function (o := ⟨oc, od, .func fd, osl⟩) (fd := fd) (evalArgs_row hp ?_)
    refine h1 p hsx hr W1 pos W1 st1 s1 (Le.refl _) I1 ys st2 e3 _ E fun W2 vs s2 x2 I2 r2 => ?_
    refine ⟨⟨I2.hr.keep _ _ (G.inK _ _ hK), rfl⟩, ?_⟩
    refine h2.call p hr W2 _ _ (.cons ((VR.ins k hk).mono x2.le) r2) W2 st2 s2 (Le.refl _) I2 b st' e4 Q E fun W3 v s3 x3 I3 r3 => hQ W3 v s3 ((x1.trans x2).trans x3) I3 r3
  | _ => cases e2
noncomputable def blank (v : AV) : Ins := ⟨v, .none, .none, .none, .none⟩
noncomputable def newM : List AV → Cm AV := fun xs st => match xs with
  | [] => some (.ins st.ins.length, { st with ins := st.ins ++ [blank .none] })
  | [v] => some (.ins st.ins.length, { st with ins := st.ins ++ [blank v] })
  | _ => .none
noncomputable def Wd.addIns (W : Wd) (x d : Addr) : Wd :=
  { W with role := fun b => if b = x then .ins W.ni else if b = d then .dct W.ni else W.role b, ia := fun k => if k = W.ni then x else W.ia k, da := fun k => if k = W.ni then d else W.da k, ni := W.ni + 1 }
theorem Wd.addIns_other {W : Wd} {x d b : Addr} (h1 : b ≠ x) (h2 : b ≠ d) : (W.addIns x d).role b = W.role b := by
  unfold Wd.addIns; simp [h1, h2]
theorem Le.addIns {W : Wd} {x d : Addr} (hx : W.role x = .oth) (hd : W.role d = .oth) : Le W (W.addIns x d) where
  ni := Nat.le_succ _
  nl := Nat.le_refl _
  ia := fun k hk => if_neg (Nat.ne_of_lt hk)
  da := fun k hk => if_neg (Nat.ne_of_lt hk)
  la := fun _ _ => rfl
  frz := fun a o e => by
    rw [Wd.addIns_other]; exact e
    · intro q; rw [q, hx] at e; cases e
    · intro q; rw [q, hd] at e; cases e
theorem HR.addIns {W : Wd} {st : AS} {h : Heap} {x d : Addr} {es : List DictEntry} {m : Nat} {i : Ins} (H : HR c W st h) (hxd : x ≠ d) (hx : W.role x = .oth) (hd : W.role d = .oth) (bx : c.h0.get? x = .none) (bd' : c.h0.get? d = .none)
    (gx : h.get? x = some (instObj c.C d)) (gd : h.get? d = some (dictOf es m)) (hf : FieldsAre W es i) : HR c (W.addIns x d) { st with ins := st.ins ++ [i] } h := by
  have L := Le.addIns hx hd
  have ne : ∀ b, W.role b ≠ .oth → (W.addIns x d).role b = W.role b := fun b hb => Wd.addIns_other (fun q => hb (q ▸ hx)) (fun q => hb (q ▸ hd))
  have rx : (W.addIns x d).role x = .ins W.ni := by unfold Wd.addIns; simp
  have rd : (W.addIns x d).role d = .dct W.ni := by unfold Wd.addIns; simp [Ne.symm hxd]
  refine ⟨H.keep, fun b hb => ?_, fun b => ?_, fun b o e => ?_, ?_, H.nl, fun k hk => ?_, fun k y e => ?_, fun g hg p hp => ?_, H.nodup⟩
  · by_cases h1 : b = x
    · rw [h1]; exact bx
    · by_cases h2 : b = d
      · rw [h2]; exact bd'
      · refine H.mutA b ?_; unfold Wd.Mut at hb ⊢; rwa [Wd.addIns_other h1 h2] at hb
  · by_cases h1 : b = x
    · rw [h1]; exact .inr ⟨_, gx⟩
    · by_cases h2 : b = d
      · rw [h2]; exact .inr ⟨_, gd⟩
      · rw [Wd.addIns_other h1 h2]; exact H.lt b
  · by_cases h1 : b = x
    · rw [h1, rx] at e; cases e
    · by_cases h2 : b = d
      · rw [h2, rd] at e; cases e
      · rw [Wd.addIns_other h1 h2] at e; exact H.frz b o e
  · show W.ni + 1 = (st.ins ++ [i]).length
    rw [List.length_append, H.ni]; rfl
  · by_cases hk' : k = W.ni
    · subst hk'
      have e1 : (W.addIns x d).ia W.ni = x := if_pos rfl
      have e2 : (W.addIns x d).da W.ni = d := if_pos rfl
      rw [e1, e2]; exact ⟨rx, rd⟩
    · have hlt : k < W.ni := by have : k < W.ni + 1 := hk; omega
      rw [L.ia k hlt, L.da k hlt]
      obtain ⟨r1, r2⟩ := H.iaR k hlt
      exact ⟨(ne _ (by rw [r1]; intro q; cases q)).trans r1, (ne _ (by rw [r2]; intro q; cases q)).trans r2⟩
  · have e' : (st.ins ++ [i])[k]? = some y := e
    by_cases hlt : k < st.ins.length
    · rw [List.getElem?_append_left hlt] at e'
      obtain ⟨es0, m0, e1, e2, r⟩ := H.insA k y e'
      rw [L.ia k (by rw [H.ni]; exact hlt), L.da k (by rw [H.ni]; exact hlt)]
      exact ⟨es0, m0, e1, e2, r.mono L⟩
    · have hk' : k = W.ni := by
        rw [List.getElem?_append_right (by omega)] at e'
        have : k - st.ins.length < 1 := (List.getElem?_eq_some_iff.mp e').1
        rw [H.ni]; omega
      subst hk'
      have e1 : (W.addIns x d).ia W.ni = x := if_pos rfl
      have e2 : (W.addIns x d).da W.ni = d := if_pos rfl
      rw [H.ni, List.getElem?_append_right (Nat.le_refl _), Nat.sub_self] at e'
      cases e'
      rw [e1, e2]
      exact ⟨es, m, gx, gd, hf.mono L⟩
  · obtain ⟨h1, h2, vs, m0, h3, h4⟩ := H.lstA g hg p hp
    exact ⟨h1, (ne (W.la p.1) (by rw [h2]; intro q; cases q)).trans h2, vs, m0, h3, h4.mono L⟩
end
end Mine

namespace Mine

section
variable {c : Cx} {n : Nat} {sx : Sx}

structure InitIs (c : Cx) (fa : Addr) (fd : FuncData) (body : List Stmt) (slf sysid : Str) : Prop where
  find : findIn c.K (.ref c.C) "__init__" = some (some (.ref fa))
  typ : typeIn c.K (.ref fa) = some (.type "function")
  at_ : ∃ oc od osl, c.K.lookup fa = some ⟨oc, od, .func fd, osl⟩
  bodyIs : fd.body = .stmts body
  code : codeIn c.K fd.code fd.qualname = true
  co : fd.scope.isCoroutine = false
  gen : fd.scope.isGenerator = false
  kind : fd.scope.kind = .function
  cell : ∀ x ∈ fd.scope.names, x.2 ≠ .cell
  bind1 : ∀ S x, peek c.K S (bindArgs fd ⟨[x], []⟩) = some [(slf, x), (sysid, .none)]
  bind2 : ∀ S x v, peek c.K S (bindArgs fd ⟨[x, v], []⟩) = some [(slf, x), (sysid, v)]
  k1 : fd.scope.names.lookup slf = some .local
  k2 : fd.scope.names.lookup sysid = some .local
  ne : slf ≠ sysid
  d1 : (slf == ("__debug__" : Str)) = false
  d2 : (sysid == ("__debug__" : Str)) = false
  shape : ∃ p1 p2 p3 p4 p5 p6 p7 p8 p9 p10 p11 p12 p13 p14 p15 p16 p17 p18 p19 p20 k2 k3 k4 k5, body = [
    .Assign [.Attribute (.Name slf p1) (fkey .sys) p2] (.Name sysid p3) p4,
    .Assign [.Attribute (.Name slf p5) (fkey .pub) p6] (.Constant .none k2 p7) p8,
    .Assign [.Attribute (.Name slf p9) (fkey .enc) p10] (.Constant .none k3 p11) p12,
    .Assign [.Attribute (.Name slf p13) (fkey .byt) p14] (.Constant .none k4 p15) p16,
    .Assign [.Attribute (.Name slf p17) (fkey .chr) p18] (.Constant .none k5 p19) p20]
noncomputable def InitAt (s1 : Shared) (d : Addr) (es : List DictEntry) (s : Shared) : Prop := ∃ h tk m, s = { s1 with heap := h, toks := tk } ∧ h.get? d = some (dictOf es m) ∧ Heap.SameBut d s1.heap h
theorem InitAt.step (C : Cls c) {A : Around} {E : Value → Shared → Prop} {s1 s : Shared} {x d : Addr} {env : Env} {m : Str → Option Value} {es : List DictEntry} {self : Str} {f : Fd} {value : Expr} {val : Value} {p1 p2 p3 : Pos} {Q : Flow → Shared → Prop}
    (X : c.K.In s1.heap) (hxd : x ≠ d) (hx : s1.heap.get? x = some (instObj c.C d)) (hK : c.K.lookup d = .none) (hk : env.scope.kind = .function) (hself : env.kindOf self = some .local) (hns : s1.heap.Ns env.locals m) (hL : env.locals ≠ d) (hm : m self = some (.ref x))
    (hd : (self == ("__debug__" : Str)) = false) (hsw : swapsWith value (some (.Attribute (.Name self p1) (fkey f) p2)) p3.line env = pure false)
    (J : InitAt s1 d es s) (hg : PySem.W.getL (fkey f) es = some .none) (hz : es.length ≤ 900)
    (hv : ∀ s, InitAt s1 d es s → ∀ Q' : Value → Shared → Prop, (∀ s', InitAt s1 d es s' → Q' val s') → wpAny (model c.prog c.w) A (eval value env) Q' E s)
    (h : ∀ hsh t s', InitAt s1 d (PySem.W.putL (fkey f) hsh (.str (fkey f) t) val es) s' → Q .next s') :
    wpAny (model c.prog c.w) A (exec (.Assign [.Attribute (.Name self p1) (fkey f) p2] value p3) env) Q E s := by
  refine plainObj_wpAny_Assign_Attribute (hv s J _ fun s2 J2 => ?_) hsw
  obtain ⟨h2, tk2, m2, rfl, hd2, hs2⟩ := J2
  refine wpAny_Name (wpAny_loadName_local hk hself (hns.sameBut hs2 hL) hm ?_) hd
  have X2 : c.K.In h2 := fun a o e => hs2.extBut a o (fun q => by rw [q, hK] at e; cases e) (X a o e)
  have I2 : InstAt h2 x (instObj c.C d) c.C (some (dictOf es m2)) := ⟨hs2.extBut _ _ hxd hx, rfl, rfl, hd2⟩
  have len : ∀ (hsh : Int) (key v : Value) (l : List DictEntry), (PySem.W.putL (fkey f) hsh key v l).length ≤ l.length + 1 := by
    intro hsh key v l
    induction l with
    | nil => simp [PySem.W.putL]
    | cons a r ih => simp only [PySem.W.putL]; split <;> simp <;> omega
  refine set_raw (s := { s1 with heap := h2, toks := tk2 }) C X2 I2 (C.fields f) (by rw [hg]; rfl) (Nat.le_trans (len ..) (by omega)) fun h' hd' hs' => ?_
  exact h _ _ _ ⟨h', _, _, rfl, hd', hs2.trans hs'⟩
theorem init_ok (G : Gd c) (C : Cls c) {fa : Addr} {fd : FuncData} {body : List Stmt} {self sysid : Str} (D : InitIs c fa fd body self sysid) {A : Around} (hr : A.depth < recursionLimit) {s : Shared} {x d : Addr} {args : List Value} {val : Value}
    (hargs : (args = [.ref x] ∧ val = .none) ∨ args = [.ref x, val]) (hkeep : ∀ a o, c.h0.get? a = some o → s.heap.get? a = some o) (hxd : x ≠ d) (hx : s.heap.get? x = some (instObj c.C d)) (hd : s.heap.get? d = some (dictOf [] 0)) (hd0 : c.h0.get? d = .none) {R : Result → Shared → Prop}
    (h : ∀ s' h1 t1 t2 t3 t4 t5 u1 u2 u3 u4 u5 m, s'.gens = s.gens → s'.os = s.os → (∀ b o, b ≠ d → s.heap.get? b = some o → s'.heap.get? b = some o) →
      s'.heap.get? d = some (dictOf [⟨h1, .str (fkey .sys) t1, val⟩, ⟨u1, .str (fkey .pub) t2, .none⟩, ⟨u2, .str (fkey .enc) t3, .none⟩, ⟨u3, .str (fkey .byt) t4, .none⟩, ⟨u4, .str (fkey .chr) t5, .none⟩] m) → u5 = 0 → R (.ok (.ret .none)) s') :
    codeAny (model c.prog c.w) A (.call (.ref fa) ⟨args, []⟩) R s := by
  obtain ⟨oc, od, osl, hK⟩ := D.at_
  have X : c.K.In s.heap := fun a o e => hkeep _ _ (G.inK a o e)
  have hKd : c.K.lookup d = .none := by
    cases e : c.K.lookup d with
    | none => rfl
    | some o => rw [G.inK _ _ e] at hd0; cases hd0
  have hb : BindsTo s fd ⟨args, []⟩ [(self, .ref x), (sysid, val)] := by
    rcases hargs with ⟨rfl, rfl⟩ | rfl
    · exact kp_binds X fun S => D.bind1 S _
    · exact kp_binds X fun S => D.bind2 S _ _
  refine codeAny_call_def hr (X _ _ hK) rfl (G.nolimit.keeps hkeep) (codeRec_of X D.code) D.bodyIs hb D.cell (fun y hy => ?_) (fun h1 hns hk1 => ?_) D.co D.gen D.kind
  · rcases List.mem_cons.mp hy with rfl | hy
    · exact D.k1
    · rcases List.mem_cons.mp hy with rfl | hy
      · exact D.k2
      · cases hy
  · obtain ⟨p1, p2, p3, p4, p5, p6, p7, p8, p9, p10, p11, p12, p13, p14, p15, p16, p17, p18, p19, p20, k2, k3, k4, k5, rfl⟩ := D.shape
    have m1 : ([(self, Value.ref x), (sysid, val)].reverse.lookup self) = some (.ref x) := by
      have : (self == sysid) = false := by simpa using D.ne
      simp [List.lookup_cons, this]
    have m2 : ([(self, Value.ref x), (sysid, val)].reverse.lookup sysid) = some val := by simp [List.lookup_cons]
    have hL : s.heap.objs.size ≠ d := fun q => Nat.lt_irrefl _ (q ▸ Heap.lt_size hd)
    let s1 : Shared := { s with heap := h1, toks := s.toks + 2 }
    have X1 : c.K.In s1.heap := fun a o e => hk1 _ _ (X a o e)
    have J0 : InitAt s1 d [] s1 := ⟨h1, _, 0, rfl, hk1 _ _ hd, Heap.SameBut.refl ..⟩
    have st : ∀ (f : Fd) (value : Expr) (v : Value) (q1 q2 q3 : Pos) (es : List DictEntry) (s2 : Shared) (Q : Flow → Shared → Prop), InitAt s1 d es s2 → PySem.W.getL (fkey f) es = some .none → es.length ≤ 900 →
        (swapsWith value (some (.Attribute (.Name self q1) (fkey f) q2)) q3.line (callEnv fd s.heap.objs.size fa) = pure false) →
        (∀ s3, InitAt s1 d es s3 → ∀ Q' : Value → Shared → Prop, (∀ s', InitAt s1 d es s' → Q' v s') → wpAny (model c.prog c.w) (A.deeper (callEnv fd s.heap.objs.size fa)) (eval value (callEnv fd s.heap.objs.size fa)) Q' (fun _ _ => False) s3) →
        (∀ hsh t s', InitAt s1 d (PySem.W.putL (fkey f) hsh (.str (fkey f) t) v es) s' → Q .next s') →
        wpAny (model c.prog c.w) (A.deeper (callEnv fd s.heap.objs.size fa)) (exec (.Assign [.Attribute (.Name self q1) (fkey f) q2] value q3) (callEnv fd s.heap.objs.size fa)) Q (fun _ _ => False) s2 :=
      fun f value v q1 q2 q3 es s2 Q J hg hz hsw hv hq => InitAt.step (env := callEnv fd s.heap.objs.size fa) C X1 hxd (hk1 _ _ hx) hKd D.kind D.k1 hns hL m1 D.d1 hsw J hg hz hv hq
    have none_v : ∀ (k : Nat) (q : Pos) (es : List DictEntry) (s3 : Shared), InitAt s1 d es s3 → ∀ Q' : Value → Shared → Prop, (∀ s', InitAt s1 d es s' → Q' .none s') → wpAny (model c.prog c.w) (A.deeper (callEnv fd s.heap.objs.size fa)) (eval (.Constant .none k q) (callEnv fd s.heap.objs.size fa)) Q' (fun _ _ => False) s3 :=
      fun k q es s3 J Q' hq => wpAny_Constant_none (hq s3 J)
    refine wpAny_noRaise ?_
    refine wpAny_execs_cons (st .sys _ val _ _ _ [] s1 _ J0 rfl (by decide) rfl (fun s3 J Q' hq => ?_) fun g1 t1 s2 J2 => ?_)
    · obtain ⟨h3, tk3, m3, rfl, e1, e2⟩ := J
      exact wpAny_Name (wpAny_loadName_local (env := callEnv fd s.heap.objs.size fa) D.kind D.k2 (hns.sameBut e2 hL) m2 (hq _ ⟨h3, tk3, m3, rfl, e1, e2⟩)) D.d2
    dsimp only
    refine wpAny_execs_cons (st .pub _ .none _ _ _ _ s2 _ J2 (by simp only [PySem.W.getL, PySem.W.putL, Value.isStr, fkey_is]; rfl) (by simp [PySem.W.putL]) rfl (none_v _ _ _) fun g2 t2 s3 J3 => ?_)
    dsimp only
    refine wpAny_execs_cons (st .enc _ .none _ _ _ _ s3 _ J3 (by simp only [PySem.W.getL, PySem.W.putL, Value.isStr, fkey_is]; rfl) (by simp only [PySem.W.putL, Value.isStr, fkey_is]; first | (show 2 ≤ 900; decide) | (show 3 ≤ 900; decide) | (show 4 ≤ 900; decide)) rfl (none_v _ _ _) fun g3 t3 s4 J4 => ?_)
    dsimp only
    refine wpAny_execs_cons (st .byt _ .none _ _ _ _ s4 _ J4 (by simp only [PySem.W.getL, PySem.W.putL, Value.isStr, fkey_is]; rfl) (by simp only [PySem.W.putL, Value.isStr, fkey_is]; first | (show 2 ≤ 900; decide) | (show 3 ≤ 900; decide) | (show 4 ≤ 900; decide)) rfl (none_v _ _ _) fun g4 t4 s5 J5 => ?_)
    dsimp only
    refine wpAny_execs_cons (st .chr _ .none _ _ _ _ s5 _ J5 (by simp only [PySem.W.getL, PySem.W.putL, Value.isStr, fkey_is]; rfl) (by simp only [PySem.W.putL, Value.isStr, fkey_is]; first | (show 2 ≤ 900; decide) | (show 3 ≤ 900; decide) | (show 4 ≤ 900; decide)) rfl (none_v _ _ _) fun g5 t5 s6 J6 => ?_)
    dsimp only
    refine wpAny_execs_nil ?_
    simp only [PySem.W.putL, Value.isStr, fkey_is] at J6
    obtain ⟨h6, tk6, m6, rfl, e1, e2⟩ := J6
    exact h _ g1 t1 t2 t3 t4 t5 g2 g3 g4 g5 0 m6 rfl rfl (fun b o hb e => e2.extBut b o hb (hk1 b o e)) e1 rfl
theorem new_ok (G : Gd c) (C : Cls c) {fa : Addr} {fd : FuncData} {body : List Stmt} {self sysid : Str} (D : InitIs c fa fd body self sysid) : OkCall c (n + 1) (.ref c.C) newM := by
  intro p hr W0 vs xs hv W st s hle I b st' e Q E hQ
  have X := I.hr.inK G
  obtain ⟨hh, g, dr, t, os⟩ := s
  have hv' := hv.mono hle
  have main : ∀ (args : List Value) (val : Value) (v : AV), args = vs → VR W val v → (∀ y : Addr, (Value.ref y :: args = [.ref y] ∧ val = .none) ∨ Value.ref y :: args = [.ref y, val]) → some (AV.ins st.ins.length, { st with ins := st.ins ++ [blank v] }) = some (b, st') →
      wpAny (model c.prog c.w) p.A (call (.ref c.C) vs) Q E ⟨hh, g, dr, t, os⟩ := by
    intro args val v hargs hval hsh e'
    cases e'
    subst hargs
    refine wpAny_call (make_core (makes_of X C.makes) (looks_findIn X D.find) (fun self => bind_fn X self D.typ) (.inl rfl) ?_)
    have nd : hh.get? hh.objs.size = .none := get_none_of_ge (Nat.le_refl _)
    have nx : hh.get? (hh.objs.size + 1) = .none := get_none_of_ge (Nat.le_succ _)
    have hk : ∀ b o, hh.get? b = some o → ((hh.push emptyDict).push (instObj c.C hh.objs.size)).get? b = some o := fun b o e => Heap.get?_push_of_some _ (Heap.get?_push_of_some _ e)
    have gx : ((hh.push emptyDict).push (instObj c.C hh.objs.size)).get? (hh.objs.size + 1) = some (instObj c.C hh.objs.size) := by
      have := Heap.get?_push_size (hh.push emptyDict) (o := instObj c.C hh.objs.size) rfl
      rwa [Heap.size_push] at this
    have gd : ((hh.push emptyDict).push (instObj c.C hh.objs.size)).get? hh.objs.size = some (dictOf [] 0) := Heap.get?_push_of_some _ (Heap.get?_push_size _ rfl)
    refine init_ok G C D (by rw [depth_under_make]; have := hr.2.1; unfold recursionLimit; omega) (x := hh.objs.size + 1) (d := hh.objs.size) (val := val) (hsh _) (fun a o q => hk a o (I.hr.keep a o q)) (Nat.ne_of_gt (Nat.lt_succ_self _)) gx gd (I.hr.base_none nd) ?_
    intro s' h1 t1 t2 t3 t4 t5 u1 u2 u3 u4 u5 m hg ho hkeep hd _
    refine ⟨rfl, ?_⟩
    have kk : ∀ b o, hh.get? b = some o → s'.heap.get? b = some o := fun b o q => hkeep b o (fun z => by rw [z, nd] at q; cases q) (hk b o q)
    have rx := I.hr.oth_of_none nx
    have rd := I.hr.oth_of_none nd
    have I' : Inv c p W st s' := I.keeps kk
    have hf : FieldsAre W _ (blank v) := FieldsAre.mk (h1 := h1) (h2 := u1) (h3 := u2) (h4 := u3) (h5 := u4) (t1 := t1) (t2 := t2) (t3 := t3) (t4 := t4) (t5 := t5) (i := blank v) hval .none .none .none .none
    have H := I'.hr.addIns (x := hh.objs.size + 1) (d := hh.objs.size) (Nat.ne_of_gt (Nat.lt_succ_self _)) rx rd (I.hr.base_none nx) (I.hr.base_none nd) (hkeep _ _ (Nat.ne_of_gt (Nat.lt_succ_self _)) gx) hd hf
    have hlocne : ∀ a, (∃ o, hh.get? a = some o) → (W.addIns (hh.objs.size + 1) hh.objs.size).role a = W.role a := fun a ⟨o, q⟩ => Wd.addIns_other (fun z => by rw [z, nx] at q; cases q) (fun z => by rw [z, nd] at q; cases q)
    refine hQ (W.addIns (hh.objs.size + 1) hh.objs.size) _ s' ⟨Le.addIns rx rd, fun a o q => ⟨o, kk a o q⟩, fun a o q z => (hlocne a ⟨o, q⟩).trans z, fun a o _ _ q => kk a o q, hg, ho⟩ ⟨H, I'.fr.mono (Le.addIns rx rd) ?_ ?_⟩ ?_
    · obtain ⟨ml, ⟨o, es, ep, q, _⟩, _⟩ := I.fr.ns
      exact (hlocne _ ⟨o, q⟩).trans I.fr.roleL
    · intro y a q
      obtain ⟨v', o, z, _⟩ := I.fr.cells y a q
      exact (hlocne _ ⟨o, z⟩).trans (I.fr.roleC y a q).1
    · have e1 : (W.addIns (hh.objs.size + 1) hh.objs.size).ia st.ins.length = hh.objs.size + 1 := by rw [← I.hr.ni]; exact if_pos rfl
      have := VR.ins (W := W.addIns (hh.objs.size + 1) hh.objs.size) st.ins.length (by rw [← I.hr.ni]; exact Nat.lt_succ_self _)
      rwa [e1] at this
  unfold newM at e
  split at e
  · cases hv'; exact main [] .none .none rfl .none (fun y => .inl ⟨rfl, rfl⟩) e
  · rename_i v
    cases hv' with
    | cons h1 h2 => cases h2; exact main [_] _ _ rfl h1 (fun y => .inr rfl) e
  · cases e
theorem ImplE.new (G : Gd c) (C : Cls c) {fa : Addr} {fd : FuncData} {body : List Stmt} {self sysid : Str} (D : InitIs c fa fd body self sysid) {x : Str} {p0 pos : Pos} {es : List Expr} {fs : Cm (List AV)} (hx : sx.sc.names.lookup x = some .globalImplicit) (hg : c.Glob x (.ref c.C))
    (h1 : ImplEs c (n + 1) sx es fs) (hd : (x == ("__debug__" : Str)) = false := by decide) (hp : es.all plainX = true := by rfl) : ImplE c (n + 1) sx (.Call (.Name x p0) es [] pos) (bd fs newM) := by
  intro p hsx hr W0 W st s hle I b st' e Q E hQ
  obtain ⟨xs, st1, e1, e2⟩ := bd_some e
  refine Call_ (load_glob G I (by rw [hsx]; exact hx) hg hd ?_)
  have fin : ∀ W1 vs s1, Ext p.Own W s W1 s1 → Inv c p W1 st1 s1 → VRs W1 vs xs → wpAny (model c.prog c.w) p.A (call (.ref c.C) vs) Q E s1 := fun W1 vs s1 x1 I1 r1 =>
    new_ok G C D p hr W1 vs xs r1 W1 st1 s1 (Le.refl _) I1 b st' e2 Q E fun W2 v s2 x2 I2 r2 => hQ W2 v s2 (x1.trans x2) I2 r2
  cases es with
  | nil =>
    have h := h1 p hsx hr W pos W st s (Le.refl _) I xs st1 e1
    refine callWith_K0 (I.hr.inK G) C.keep ?_
    have h' := h (fun vs s1 => vs = [] ∧ s1 = s → wpAny (model c.prog c.w) p.A (call (.ref c.C) ([] ++ [])) Q E s) (fun _ _ => False) (fun W1 vs s1 x1 I1 r1 hh => by obtain ⟨h1, h2⟩ := hh; subst h1; rw [h2] at x1 I1; exact fin W1 [] s x1 I1 r1)
    intro Γ pp hΓ
    exact (h' Γ pp hΓ) ⟨rfl, rfl⟩ Γ pp hΓ
  | cons e0 r0 =>
    have he : plainX e0 = true := (Bool.and_eq_true_iff.mp (List.all_cons ▸ hp)).1
    refine callWith_K (G.inK) C.keep (h1 p hsx hr W pos W st s (Le.refl _) I xs st1 e1 _ E fun W1 vs s1 x1 I1 r1 => ⟨I1.hr.inK G, ?_⟩) (star_plain he) (any_false (Bool.and_eq_true_iff.mp (List.all_cons ▸ hp)).2)
    exact fin W1 vs s1 x1 I1 r1
end
end Mine

namespace Mine

theorem lookL_none {k : Nat} : ∀ {g : List (Nat × List AV)}, lookL k g = .none → ∀ p ∈ g, p.1 ≠ k
  | [], _, _, h => by cases h
  | (j, xs) :: r, h, p, hp => by
    simp only [lookL] at h
    split at h
    · cases h
    · rename_i q
      rcases List.mem_cons.mp hp with rfl | hp
      · exact fun e => q e.symm
      · exact lookL_none h p hp
theorem getL1_mem {k : Nat} {xs : List AV} : ∀ {l : LH}, getL1 k l = some xs → ∃ g ∈ l, (k, xs) ∈ g
  | [], h => by cases h
  | g :: r, h => by
    simp only [getL1] at h
    split at h
    · rename_i ys e; cases h; exact ⟨g, List.mem_cons_self, lookL_mem e⟩
    · obtain ⟨g', h1, h2⟩ := getL1_mem h; exact ⟨g', List.mem_cons_of_mem _ h1, h2⟩
theorem putSeg_fst {k : Nat} {ys : List AV} : ∀ g : List (Nat × List AV), (putSeg k ys g).map (·.1) = g.map (·.1)
  | [] => rfl
  | (j, xs) :: r => by
    simp only [putSeg]
    split
    · rfl
    · rw [List.map_cons, List.map_cons, putSeg_fst r]
theorem putL1_fst {k : Nat} {ys : List AV} : ∀ l : LH, (putL1 k ys l).flatten.map (·.1) = l.flatten.map (·.1)
  | [] => rfl
  | g :: r => by
    simp only [putL1]
    split
    · rw [List.flatten_cons, List.flatten_cons, List.map_append, List.map_append, putSeg_fst]
    · rw [List.flatten_cons, List.flatten_cons, List.map_append, List.map_append, putL1_fst r]
theorem putSeg_mem {k : Nat} {ys : List AV} {p : Nat × List AV} : ∀ {g : List (Nat × List AV)}, (g.map (·.1)).Nodup → p ∈ putSeg k ys g → p = (k, ys) ∨ (p ∈ g ∧ p.1 ≠ k)
  | [], _, h => by cases h
  | (j, xs) :: r, nd, h => by
    rw [List.map_cons, List.nodup_cons] at nd
    simp only [putSeg] at h
    split at h
    · rename_i q
      subst q
      rcases List.mem_cons.mp h with h | h
      · exact .inl h
      · exact .inr ⟨List.mem_cons_of_mem _ h, fun e => nd.1 (e ▸ List.mem_map.mpr ⟨p, h, rfl⟩)⟩
    · rename_i q
      rcases List.mem_cons.mp h with h | h
      · subst h; exact .inr ⟨List.mem_cons_self, fun e => q e.symm⟩
      · rcases putSeg_mem nd.2 h with h | ⟨h1, h2⟩
        · exact .inl h
        · exact .inr ⟨List.mem_cons_of_mem _ h1, h2⟩
theorem putL1_mem {k : Nat} {ys : List AV} {p : Nat × List AV} : ∀ {l : LH}, (l.flatten.map (·.1)).Nodup → p ∈ (putL1 k ys l).flatten → p = (k, ys) ∨ (p ∈ l.flatten ∧ p.1 ≠ k)
  | [], _, h => by cases h
  | g :: r, nd, h => by
    rw [List.flatten_cons, List.map_append, List.nodup_append] at nd
    simp only [putL1] at h
    split at h
    · rename_i zs hz
      rw [List.flatten_cons, List.mem_append] at h
      rcases h with h | h
      · rcases putSeg_mem nd.1 h with h | ⟨h1, h2⟩
        · exact .inl h
        · exact .inr ⟨by rw [List.flatten_cons, List.mem_append]; exact .inl h1, h2⟩
      · exact .inr ⟨by rw [List.flatten_cons, List.mem_append]; exact .inr h, fun e => nd.2.2 k (List.mem_map.mpr ⟨_, lookL_mem hz, rfl⟩) p.1 (List.mem_map.mpr ⟨p, h, rfl⟩) e.symm⟩
    · rename_i hz
      rw [List.flatten_cons, List.mem_append] at h
      rcases h with h | h
      · exact .inr ⟨by rw [List.flatten_cons, List.mem_append]; exact .inl h, lookL_none hz p h⟩
      · rcases putL1_mem nd.2.1 h with h | ⟨h1, h2⟩
        · exact .inl h
        · exact .inr ⟨by rw [List.flatten_cons, List.mem_append]; exact .inr h1, h2⟩
theorem pushL1_mem {k : Nat} {xs : List AV} {p : Nat × List AV} : ∀ {l : LH}, p ∈ (pushL1 k xs l).flatten → p = (k, xs) ∨ p ∈ l.flatten
  | [], h => by simp [pushL1] at h; exact .inl h
  | g :: r, h => by
    simp only [pushL1, List.flatten_cons, List.cons_append, List.mem_cons, List.mem_append] at h ⊢
    exact h
theorem pushL1_fst {k : Nat} {xs : List AV} : ∀ l : LH, (pushL1 k xs l).flatten.map (·.1) = k :: l.flatten.map (·.1)
  | [] => rfl
  | g :: r => by simp only [pushL1, List.flatten_cons, List.cons_append, List.map_cons]
section
variable {c : Cx} {n : Nat} {sx : Sx}

theorem HR.lstA' {W : Wd} {st : AS} {h : Heap} (H : HR c W st h) {p : Nat × List AV} (hp : p ∈ st.lst.flatten) : p.1 < W.nl ∧ W.role (W.la p.1) = .lob p.1 ∧ ∃ vs n, h.get? (W.la p.1) = some (listOf vs.toArray n) ∧ VRs W vs p.2 := by
  obtain ⟨g, hg, hp⟩ := List.mem_flatten.mp hp
  exact H.lstA g hg p hp
theorem HR.lobAt {W : Wd} {st : AS} {h : Heap} (H : HR c W st h) {k : Nat} {xs : List AV} (e : getL1 k st.lst = some xs) : k < W.nl ∧ W.role (W.la k) = .lob k ∧ ∃ vs n, h.get? (W.la k) = some (listOf vs.toArray n) ∧ VRs W vs xs := by
  obtain ⟨g, hg, hp⟩ := getL1_mem e
  exact H.lstA g hg _ hp
theorem HR.updLob {W : Wd} {st : AS} {h h' : Heap} {k m : Nat} {xs ys : List AV} {vs : List Value} (H : HR c W st h) (e : getL1 k st.lst = some xs) (hd : h'.get? (W.la k) = some (listOf vs.toArray m)) (hs : Heap.SameBut (W.la k) h h') (hv : VRs W vs ys) :
    HR c W { st with lst := putL1 k ys st.lst } h' := by
  obtain ⟨r0, r2, _⟩ := H.lobAt e
  have hm : W.Mut (W.la k) := by unfold Wd.Mut; rw [r2]; trivial
  have kp : ∀ a o, a ≠ W.la k → h.get? a = some o → h'.get? a = some o := fun a o ha e => hs.extBut a o ha e
  refine ⟨fun a o e => kp a o (fun q => ?_) (H.keep a o e), H.mutA, fun a => ?_, fun a o e => kp a o (fun q => ?_) (H.frz a o e), H.ni, H.nl, H.iaR, fun j y e => ?_, fun g hg p hp => ?_, ?_⟩
  · rw [q, H.mutA _ hm] at e; cases e
  · rcases Classical.em (a = W.la k) with q | q
    · subst q; exact .inr ⟨_, hd⟩
    · exact (H.lt a).imp id fun ⟨o, z⟩ => ⟨o, kp a o q z⟩
  · rw [q, r2] at e; cases e
  · obtain ⟨es0, m0, e1, e2, r⟩ := H.insA j y e
    have hj : j < W.ni := by rw [H.ni]; exact (List.getElem?_eq_some_iff.mp e).1
    obtain ⟨s1, s2⟩ := H.iaR j hj
    exact ⟨es0, m0, kp _ _ (fun q => by rw [q, r2] at s1; cases s1) e1, kp _ _ (fun q => by rw [q, r2] at s2; cases s2) e2, r⟩
  · rcases putL1_mem H.nodup (List.mem_flatten.mpr ⟨g, hg, hp⟩) with q | ⟨q1, q2⟩
    · subst q; exact ⟨r0, r2, vs, m, hd, hv⟩
    · obtain ⟨h1, h2, us, m0, h3, h4⟩ := H.lstA' q1
      exact ⟨h1, h2, us, m0, kp _ _ (fun z => by rw [z, r2] at h2; cases h2; exact q2 rfl) h3, h4⟩
  · show ((putL1 k ys st.lst).flatten.map (·.1)).Nodup
    rw [putL1_fst]; exact H.nodup
theorem lob_change {p : Pl} {W : Wd} {st : AS} {s : Shared} {h' : Heap} {k m tk : Nat} {xs ys : List AV} {vs : List Value} (I : Inv c p W st s) (e : getL1 k st.lst = some xs) (hd : h'.get? (W.la k) = some (listOf vs.toArray m)) (hs : Heap.SameBut (W.la k) s.heap h') (hv : VRs W vs ys) :
    Inv c p W { st with lst := putL1 k ys st.lst } { s with heap := h', toks := tk } ∧ Ext p.Own W s W { s with heap := h', toks := tk } := by
  obtain ⟨_, r2, _⟩ := I.hr.lobAt e
  have hm : W.Mut (W.la k) := by unfold Wd.Mut; rw [r2]; trivial
  exact ⟨⟨I.hr.updLob e hd hs hv, I.fr.change hm hs⟩, Ext.change hm hs ⟨_, hd⟩⟩
noncomputable def Wd.addLob (W : Wd) (a : Addr) : Wd :=
  { W with role := fun b => if b = a then .lob W.nl else W.role b, la := fun k => if k = W.nl then a else W.la k, nl := W.nl + 1 }
theorem Le.addLob {W : Wd} {a : Addr} (h : W.role a = .oth) : Le W (W.addLob a) where
  ni := Nat.le_refl _
  nl := Nat.le_succ _
  ia := fun _ _ => rfl
  da := fun _ _ => rfl
  la := fun k hk => if_neg (Nat.ne_of_lt hk)
  frz := fun b o e => by
    show (if b = a then Role.lob W.nl else W.role b) = _
    rw [if_neg]; exact e
    intro q; rw [q, h] at e; cases e
theorem HR.addLob {W : Wd} {st : AS} {h : Heap} {a : Addr} {vs : List Value} {m : Nat} {xs : List AV} (H : HR c W st h) (hr : W.role a = .oth) (hb : c.h0.get? a = .none) (ha : h.get? a = some (listOf vs.toArray m)) (hv : VRs W vs xs) :
    HR c (W.addLob a) { st with lst := pushL1 st.nl xs st.lst, nl := st.nl + 1 } h := by
  have L := Le.addLob hr
  have ne : ∀ b, W.role b ≠ .oth → (W.addLob a).role b = W.role b := fun b hb => if_neg (show b ≠ a from fun q => hb (q ▸ hr))
  have rs : (W.addLob a).role a = .lob W.nl := if_pos rfl
  have ot : ∀ b, b ≠ a → (W.addLob a).role b = W.role b := fun b hb => if_neg hb
  refine ⟨H.keep, fun b hm => ?_, fun b => ?_, fun b o e => ?_, H.ni, congrArg (· + 1) H.nl, fun k hk => ?_, fun k i e => ?_, fun g hg p hp => ?_, ?_⟩
  · by_cases q : b = a
    · rw [q]; exact hb
    · refine H.mutA b ?_; unfold Wd.Mut at hm ⊢; rwa [ot b q] at hm
  · by_cases q : b = a
    · rw [q]; exact .inr ⟨_, ha⟩
    · rw [ot b q]; exact H.lt b
  · by_cases q : b = a
    · rw [q, rs] at e; cases e
    · rw [ot b q] at e; exact H.frz b o e
  · obtain ⟨r1, r2⟩ := H.iaR k hk
    exact ⟨(ne (W.ia k) (by rw [r1]; intro q; cases q)).trans r1, (ne (W.da k) (by rw [r2]; intro q; cases q)).trans r2⟩
  · obtain ⟨es, m0, e1, e2, r⟩ := H.insA k i e
    exact ⟨es, m0, e1, e2, r.mono L⟩
  · rcases pushL1_mem (List.mem_flatten.mpr ⟨g, hg, hp⟩) with q | q
    · subst q
      have e1 : (W.addLob a).la st.nl = a := by rw [← H.nl]; exact if_pos rfl
      rw [e1]
      refine ⟨?_, ?_, vs, m, ha, hv.mono L⟩
      · show st.nl < W.nl + 1; rw [H.nl]; exact Nat.lt_succ_self _
      · rw [rs, H.nl]
    · obtain ⟨h1, h2, us, m0, h3, h4⟩ := H.lstA' q
      have e1 : (W.addLob a).la p.1 = W.la p.1 := L.la _ h1
      rw [e1]
      exact ⟨Nat.lt_succ_of_lt h1, (ne _ (by rw [h2]; intro q; cases q)).trans h2, us, m0, h3, h4.mono L⟩
  · show ((pushL1 st.nl xs st.lst).flatten.map (·.1)).Nodup
    rw [pushL1_fst, List.nodup_cons]
    refine ⟨fun hm => ?_, H.nodup⟩
    obtain ⟨p, hp, e⟩ := List.mem_map.mp hm
    have := (H.lstA' hp).1
    rw [e, H.nl] at this
    exact Nat.lt_irrefl _ this
noncomputable def newLob (xs : List AV) : Cm AV := fun st => if xs.length ≤ 100000 then some (.lob st.nl, { st with lst := pushL1 st.nl xs st.lst, nl := st.nl + 1 }) else .none
theorem Inv.toLob {p : Pl} {W : Wd} {st : AS} {s s' : Shared} {a : Addr} {vs : List Value} {m : Nat} {xs : List AV} (I : Inv c p W st s) (hn : s.heap.get? a = .none) (k : ∀ b o, s.heap.get? b = some o → s'.heap.get? b = some o)
    (ha : s'.heap.get? a = some (listOf vs.toArray m)) (hv : VRs W vs xs) (hg : s'.gens = s.gens) (ho : s'.os = s.os) :
    Inv c p (W.addLob a) { st with lst := pushL1 st.nl xs st.lst, nl := st.nl + 1 } s' ∧ Ext p.Own W s (W.addLob a) s' ∧ VR (W.addLob a) (.ref a) (.lob st.nl) := by
  have hr := I.hr.oth_of_none hn
  have I' : Inv c p W st s' := I.keeps k
  have ot : ∀ b o, s.heap.get? b = some o → (W.addLob a).role b = W.role b := fun b o e => if_neg (show b ≠ a from fun q => by rw [q, hn] at e; cases e)
  refine ⟨⟨I'.hr.addLob hr (I.hr.base_none hn) ha hv, I'.fr.mono (Le.addLob hr) ?_ fun y b q => ?_⟩, ⟨Le.addLob hr, fun b o e => ⟨o, k b o e⟩, fun b o e z => (ot b o e).trans z, fun b o _ _ e => k b o e, hg, ho⟩, ?_⟩
  · obtain ⟨ml, ⟨o, es, ep, q, _⟩, _⟩ := I.fr.ns
    exact (ot _ o q).trans I.fr.roleL
  · obtain ⟨v', o, z, _⟩ := I.fr.cells y b q
    exact (ot _ o z).trans (I.fr.roleC y b q).1
  · have e1 : (W.addLob a).la st.nl = a := by rw [← I.hr.nl]; exact if_pos rfl
    have := VR.lob (W := W.addLob a) st.nl (by show st.nl < W.nl + 1; rw [I.hr.nl]; exact Nat.lt_succ_self _)
    rwa [e1] at this
theorem newLob_ok {p : Pl} {W0 : Wd} {vs : List Value} {xs : List AV} (h : VRs W0 vs xs) : Ok c p W0 (PySem.newList vs) VR (newLob xs) := by
  intro W st s hle I b st' e Q E hQ
  unfold newLob at e
  split at e
  · rename_i hsz
    cases e
    have hl := h.length
    refine wpAny_newObj_type ?_ (by show vs.toArray.size ≤ sizeLine; rw [List.size_toArray, sizeLine_eq]; omega)
    obtain ⟨I', x, r⟩ := I.toLob (s' := { s with heap := s.heap.push (listOf vs.toArray 0) }) (a := s.heap.objs.size) (get_none_of_ge (Nat.le_refl _)) (fun _ _ e => Heap.get?_push_of_some _ e) (Heap.get?_push_size _ rfl) (h.mono hle) rfl rfl
    exact hQ _ _ _ x I' r
  · cases e
theorem ImplE.listMut {es : List Expr} {pos : Pos} {f : Cm (List AV)} (h : ImplEs c n sx es f) : ImplE c n sx (.List es pos) (bd f newLob) := by
  intro p hsx hr W0 W st s hle I b st' e Q E hQ
  obtain ⟨xs, st1, e1, e2⟩ := bd_some e
  refine List_ (h p hsx hr W pos W st s (Le.refl _) I xs st1 e1 _ E fun W1 vs s1 x1 I1 r1 => ?_)
  exact newLob_ok r1 W1 st1 s1 (Le.refl _) I1 b st' e2 Q E fun W2 v s2 x2 I2 r2 => hQ W2 v s2 (x1.trans x2) I2 r2
noncomputable def itemsM : AV → Cm (List AV) := fun x st => match x with
  | .lst xs => some (xs, st)
  | .lob k => (match getL1 k st.lst with | some xs => some (xs, st) | .none => .none)
  | _ => .none
theorem items_at {p : Pl} {W : Wd} {st st' : AS} {s : Shared} (I : Inv c p W st s) {v : Value} {x : AV} {xs : List AV} (hv : VR W v x) (e : itemsM x st = some (xs, st')) :
    st' = st ∧ ∃ a vs m, v = .ref a ∧ s.heap.get? a = some (listOf vs.toArray m) ∧ VRs W vs xs := by
  cases hv with
  | lst h r => simp only [itemsM] at e; cases e; exact ⟨rfl, _, _, _, rfl, I.hr.frz _ _ h, r⟩
  | lob k hk =>
    simp only [itemsM] at e
    split at e
    · rename_i ys hy
      cases e
      obtain ⟨_, _, vs, m, h3, h4⟩ := I.hr.lobAt hy
      exact ⟨rfl, _, vs, m, rfl, h3, h4⟩
    · cases e
  | _ => simp only [itemsM] at e; cases e
end
end Mine

namespace Mine

section
variable {c : Cx} {n : Nat} {sx : Sx}

noncomputable def chkL (x : AV) : Cm Unit := fun st => match itemsM x st with
  | some _ => some ((), st)
  | .none => .none
noncomputable def OkMeth (c : Cx) (n : Nat) (id : String) (F : AV → List AV → Cm AV) : Prop := ∀ p : Pl, Room n p.A → ∀ W0 o x vs xs, VR W0 o x → VRs W0 vs xs → Ok c p W0 (call (.builtin id) (o :: vs)) VR (F x xs)
noncomputable def lmethM (fo : Cm AV) (fs : Cm (List AV)) (F : AV → List AV → Cm AV) : Cm AV := bd fo fun x => bd (chkL x) fun _ => bd fs fun ys => F x ys
theorem ImplE.lmeth {o : Expr} {m : Str} {id : String} {apos pos : Pos} {es : List Expr} {fo : Cm AV} {fs : Cm (List AV)} {F : AV → List AV → Cm AV} (slot : Slot "list" m id) (hty : typeOf (.builtin id) = pure (.type "method_descriptor"))
    (h0 : ImplE c n sx o fo) (h1 : ImplEs c n sx es fs) (h2 : OkMeth c n id F)
    (hb : ∀ env t, attributeBase o m env t = t := by intro _ _; rfl) (hp : es.all plainX = true := by rfl) (hl : (apos.endLine == pos.line) = true := by rfl) (hfew : decide (es.length < 30) = true := by rfl) :
    ImplE c n sx (.Call (.Attribute o m apos) es [] pos) (lmethM fo fs F) := by
  intro p hsx hr W0 W st s hle I b st' e Q E hQ
  obtain ⟨x, st1, e1, e2⟩ := bd_some e
  obtain ⟨u, st1', e3, e4⟩ := bd_some e2
  obtain ⟨ys, st2, e5, e6⟩ := bd_some e4
  rw [arm_eval_Call, hb]
  refine wpAny_bind (h0 p hsx hr W W st s (Le.refl _) I x st1 e1 _ E fun W1 ov s1 x1 I1 r1 => wpAny_bind (wpAny_standAt ?_))
  unfold chkL at e3
  split at e3
  · rename_i xs q
    cases e3
    obtain ⟨xs, st9⟩ := xs
    obtain ⟨_, a, vs, m0, rfl, ho, _⟩ := items_at I1 r1 q
    have hform : methodCallForm (es.length + ([] : List Keyword).length) (backTo pos (starEach es p.env)) (backToKw pos (keywordEach [] p.env)) = true := by
      unfold methodCallForm
      have h1 : (backTo pos (starEach es p.env)).all (fun x => !x.1) = true := by
        have := any_false (env := p.env) (pos := pos) hp
        rw [List.all_eq_not_any_not]; simpa using this
      rw [h1]
      show (true && true && decide (es.length + 0 + 0 < 30)) = true
      simpa using hfew
    have hpos : methodCallPos true o p.env apos pos = pure pos := by unfold methodCallPos; simp [hl]
    unfold methodCall
    rw [hform]
    refine wpAny_bind (wpAny_holding ?_)
    show wpAny _ _ (getMethod (.ref a) m _) _ _ _
    refine getMethod_builtin ⟨_, ho, rfl⟩ PySem.F.plainAttrs_list slot hty (fun a' e => by cases e; exact ⟨_, ho, rfl⟩) ?_
    refine wpAny_bind (wpAny_of_eq hpos ?_)
    refine Calls.callWith_builtin (any_false hp) (evalArgs_row hp ?_)
    refine h1 p hsx hr W1 pos W1 st1 s1 (Le.refl _) I1 ys st2 e5 _ E fun W2 ws s2 x2 I2 r2 => ?_
    exact h2 p hr W2 _ _ _ _ (r1.mono x2.le) r2 W2 st2 s2 (Le.refl _) I2 b st' e6 Q E fun W3 v s3 x3 I3 r3 => hQ W3 v s3 ((x1.trans x2).trans x3) I3 r3
  · cases e3
theorem upd_list {h : Heap} {a : Addr} {its : Array Value} {k : Nat} {f : Array Value → Array Value} (e : h.get? a = some (listOf its k)) : ∃ m, (h.update a (Obj.mapSeq f)).get? a = some (listOf (f its) m) :=
  ⟨_, Heap.get?_update_self _ e rfl⟩
noncomputable def appendM : AV → List AV → Cm AV := fun x ys st => match x, ys with
  | .lob k, [y] => (match getL1 k st.lst with
      | some xs => if xs.length ≤ 100000 then some (.none, { st with lst := putL1 k (xs ++ [y]) st.lst }) else .none
      | .none => .none)
  | _, _ => .none
theorem append_ok : OkMeth c n "list.append" appendM := by
  intro p hr W0 o x vs xs ho hvs W st s hle I b st' e Q E hQ
  cases ho.mono hle with
  | lob k hk =>
    cases hvs.mono hle with
    | nil => cases e
    | cons hy hr' =>
      cases hr' with
      | cons _ _ => cases e
      | nil =>
        simp only [appendM] at e
        split at e
        · rename_i zs hz
          split at e
          · rename_i hsz
            cases e
            obtain ⟨_, _, us, m, h3, h4⟩ := I.hr.lobAt hz
            have hl := h4.length
            refine call_meets PySem.F.slot_list_append ⟨_, h3, rfl⟩ PySem.F.entry_list_append (PySem.F.args_list_append_2 _ _) (list_append _ us.toArray m _ (by rw [List.size_toArray, sizeLine_eq]; omega)) ⟨h3, ?_⟩
            obtain ⟨m', e'⟩ := upd_list (f := fun z => z.push _) h3
            rw [List.push_toArray] at e'
            obtain ⟨I', x'⟩ := lob_change (tk := s.toks) I hz e' (Heap.SameBut.update ..) (h4.append (.one hy))
            exact hQ W _ _ x' I' .none
          · cases e
        · cases e
  | _ => cases e
noncomputable def extendM : AV → List AV → Cm AV := fun x ys st => match x, ys with
  | .lob k, [y] => (match getL1 k st.lst, itemsM y st with
      | some xs, some (zs, _) => if xs.length + zs.length ≤ 100000 then some (.none, { st with lst := putL1 k (xs ++ zs) st.lst }) else .none
      | _, _ => .none)
  | _, _ => .none
theorem extend_ok : OkMeth c n "list.extend" extendM := by
  intro p hr W0 o x vs xs ho hvs W st s hle I b st' e Q E hQ
  cases ho.mono hle with
  | lob k hk =>
    cases hvs.mono hle with
    | nil => cases e
    | cons hy hr' =>
      cases hr' with
      | cons _ _ => cases e
      | nil =>
        simp only [extendM] at e
        split at e
        · rename_i zs ws st2 hz hw
          split at e
          · rename_i hsz
            cases e
            obtain ⟨_, _, us, m, h3, h4⟩ := I.hr.lobAt hz
            obtain ⟨_, a, ts, m2, rfl, h5, h6⟩ := items_at I hy hw
            have hl := h4.length
            have hl2 := h6.length
            have hs' : us.toArray.size + ts.toArray.size ≤ sizeLine := by rw [List.size_toArray, List.size_toArray, sizeLine_eq]; omega
            refine call_meets PySem.F.slot_list_extend ⟨_, h3, rfl⟩ PySem.F.entry_list_extend (PySem.F.args_list_extend_2 _ _) (AutoSeq1.list_extend_list_list_0 _ us.toArray m a ts.toArray m2 (extend_door hs') (Nat.le_trans (Nat.le_add_right _ _) hs') (Nat.le_succ_of_le hs')) ⟨h3, h5, ?_⟩
            obtain ⟨m', e'⟩ := upd_list (f := fun z => z ++ ts.toArray) h3
            rw [show us.toArray ++ ts.toArray = (us ++ ts).toArray from by simp] at e'
            obtain ⟨I', x'⟩ := lob_change (tk := s.toks) I hz e' (Heap.SameBut.update ..) (h4.append h6)
            exact hQ W _ _ x' I' .none
          · cases e
        · cases e
  | _ => cases e
end
end Mine

namespace Mine

section
variable {c : Cx} {n : Nat} {sx : Sx}

noncomputable def AV.int? : AV → Option Int
  | .int i => some i
  | _ => .none
theorem AV.int_of {x : AV} {i : Int} (h : x.int? = some i) : x = .int i := by
  unfold AV.int? at h
  split at h
  · cases h; rfl
  · cases h
noncomputable def idxM (xs : List AV) (i : Int) : Option AV := if 0 ≤ i then xs[i.toNat]? else .none
noncomputable def getItemM : AV → AV → Cm AV := fun o i st => match i.int?, itemsM o st with
  | some i, some (xs, _) => if xs.length ≤ 100000 then (match idxM xs i with | some v => some (v, st) | .none => .none) else .none
  | _, _ => .none
theorem getItem_inv {o y : AV} {st st' : AS} {b : AV} (e : getItemM o y st = some (b, st')) : ∃ i xs q, y = .int i ∧ itemsM o st = some (xs, q) ∧ xs.length ≤ 100000 ∧ 0 ≤ i ∧ xs[i.toNat]? = some b ∧ st' = st := by
  unfold getItemM at e
  split at e
  · rename_i i xs q h1 h2
    split at e
    · rename_i hl
      unfold idxM at e
      by_cases h0 : 0 ≤ i
      · rw [if_pos h0] at e
        cases z : xs[i.toNat]? with
        | none => rw [z] at e; cases e
        | some v => rw [z] at e; cases e; exact ⟨i, xs, q, AV.int_of h1, h2, hl, h0, z, rfl⟩
      · rw [if_neg h0] at e; cases e
    · cases e
  · cases e
theorem getItem_ok {p : Pl} {value slice : Expr} {W0 : Wd} {o i : Value} {x y : AV} (ho : VR W0 o x) (hi : VR W0 i y) (hs : ∀ o i, subscripted slice false o i = operate [o, i] (getItem o i)) : Ok c p W0 (subscriptTail value slice o i) VR (getItemM x y) := by
  intro W st s hle I b st' e Q E hQ
  obtain ⟨i, xs, q, rfl, he, hsz, h0, hv, rfl⟩ := getItem_inv e
  obtain ⟨t, rfl⟩ := hi.inv_int
  obtain ⟨_, a, vs, m, rfl, h3, h4⟩ := items_at I (ho.mono hle) he
  obtain ⟨w, hw, r⟩ := h4.get hv
  have hlt : i.toNat < xs.length := (List.getElem?_eq_some_iff.mp hv).1
  exact tail_any (T := "list") ⟨_, h3, rfl⟩ slot_list_getitem.lookup (wpAny_getItem_list ⟨_, h3, rfl, _, rfl⟩ h0 (by omega) (by rw [List.getElem?_toArray]; exact hw) (hQ W w s (Ext.refl ..) I r)) (hs _ _)
noncomputable def notSlice : Expr → Bool
  | .Slice .. => false
  | _ => true
theorem sub_plain {slice : Expr} (h : notSlice slice = true) (o i : Value) : subscripted slice false o i = operate [o, i] (getItem o i) := by
  cases slice <;> first | rfl | cases h
theorem ImplE.item {value slice : Expr} {pos : Pos} {f g : Cm AV} (h1 : ImplE c n sx value f) (h2 : ImplE c n sx slice g) (hs : notSlice slice = true := by rfl) : ImplE c n sx (.Subscript value slice pos) (bin2 f g getItemM) := by
  intro p hsx hr W0 W st s hle I b st' e Q E hQ
  obtain ⟨x, st1, e1, e2⟩ := bd_some e
  obtain ⟨y, st2, e3, e4⟩ := bd_some e2
  refine Subscript_ (h1 p hsx hr W W st s (Le.refl _) I x st1 e1 _ E fun W1 a s1 x1 I1 r1 => ?_)
  refine h2 p hsx hr W1 W1 st1 s1 (Le.refl _) I1 y st2 e3 _ E fun W2 vb s2 x2 I2 r2 => ?_
  exact getItem_ok (r1.mono x2.le) r2 (sub_plain hs) W2 st2 s2 (Le.refl _) I2 b st' e4 Q E fun W3 v s3 x3 I3 r3 => hQ W3 v s3 ((x1.trans x2).trans x3) I3 r3
noncomputable def AV.lob? : AV → Option Nat
  | .lob k => some k
  | _ => .none
theorem AV.lob_of {x : AV} {k : Nat} (h : x.lob? = some k) : x = .lob k := by
  unfold AV.lob? at h
  split at h
  · cases h; rfl
  · cases h
noncomputable def setItemM : AV → AV → AV → Cm Unit := fun o i v st => match i.int?, o.lob? with
  | some i, some k => (match getL1 k st.lst with
    | some xs => if 0 ≤ i ∧ i < xs.length ∧ xs.length ≤ 100000 then some ((), { st with lst := putL1 k (xs.set i.toNat v) st.lst }) else .none
    | .none => .none)
  | _, _ => .none
theorem setList_wp {A : Around} {E : Value → Shared → Prop} {s : Shared} {a : Addr} {vs : List Value} {m : Nat} {k : Int} {t : Tok} {v : Value} {Q : Unit → Shared → Prop} (h : s.heap.get? a = some (listOf vs.toArray m)) (h0 : 0 ≤ k) (h1 : k < vs.length) (hz : vs.length ≤ 100000)
    (hQ : ∀ h' m', h'.get? a = some (listOf (vs.set k.toNat v).toArray m') → Heap.SameBut a s.heap h' → Q () { s with heap := h' }) : wpAny (model c.prog c.w) A (setItem (.ref a) (.int k t) v) Q E s := by
  have L : s.heap.IsList a vs.toArray := ⟨_, h, rfl, _, rfl⟩
  have hfit : Builtin.List.listFitsIndex k = true := fitsIndex_of h0 (by omega)
  clear hz
  unfold setItem
  refine wpAny_holding (wpAny_bind (wpAny_sequenceKey L.typeIs (by decide) ?_))
  refine wpAny_bind (wpAny_callSpecial?_slot (name := Str.ofString "__setitem__") L.typeIs slot_list_setitem (wpAny_call_entry slot_list_setitem L.typeIs entry_list_setitem ?_ (args_list_setitem _ _ _)))
  show wpAny _ _ (Builtin.List.listSubscript? (.int k t) >>= _) _ _ s
  refine wpAny_bind (wpAny_listSubscript_int hfit ?_)
  clear hfit
  obtain ⟨j, rfl⟩ := Int.eq_ofNat_of_zero_le h0
  have hj : j < vs.toArray.size := by rw [List.size_toArray]; omega
  show wpAny _ _ ((seqItemAt a j >>= fun r => pure (r.map (j, ·))) >>= _) _ _ s
  refine wpAny_bind (wpAny_bind (wpAny_seqItemAt h rfl (wpAny_pure ?_)))
  rw [Array.getElem?_eq_getElem hj]
  show wpAny _ _ (setSeqItemAt a j v >>= _) _ _ s
  obtain ⟨m', e'⟩ := upd_list (f := fun z => z.setIfInBounds j v) h
  rw [List.setIfInBounds_toArray] at e'
  refine wpAny_bind (wpAny_setSeqItemAt h rfl ?_)
  first
    | exact wpAny_pure ⟨.none, rfl, wpAny_pure (hQ _ m' e' (Heap.SameBut.update ..))⟩
    | exact wpAny_bind (wpAny_pure (wpAny_pure ⟨.none, rfl, wpAny_pure (hQ _ m' e' (Heap.SameBut.update ..))⟩))
theorem setItem_ok {p : Pl} {W0 : Wd} {o i val : Value} {x y v : AV} (ho : VR W0 o x) (hi : VR W0 i y) (hv : VR W0 val v) : Ok c p W0 (setItem o i val) (fun _ _ _ => True) (setItemM x y v) := by
  intro W st s hle I b st' e Q E hQ
  unfold setItemM at e
  split at e
  · rename_i i' k e1 e2
    obtain rfl := AV.int_of e1
    obtain rfl := AV.lob_of e2
    obtain ⟨t, rfl⟩ := hi.inv_int
    obtain ⟨rfl, hk⟩ := (ho.mono hle).inv_lob
    split at e
    · rename_i xs hx
      split at e
      · rename_i hb
        cases e
        obtain ⟨_, _, us, m, ⟨h3, h4⟩⟩ := I.hr.lobAt hx
        have hl := h4.length
        refine setList_wp h3 hb.1 (by rw [hl]; exact hb.2.1) (by rw [hl]; exact hb.2.2) fun h' m' e' hs => ?_
        obtain ⟨I', x'⟩ := lob_change (tk := s.toks) I hx e' hs (h4.set (hv.mono hle) i'.toNat)
        exact hQ W _ _ x' I' trivial
      · cases e
    · cases e
  · cases e
theorem ImplA.item {o i : Expr} {pos : Pos} {f g : Cm AV} (h1 : ImplE c n sx o f) (h2 : ImplE c n sx i g) : ImplA c n sx (.Subscript o i pos) (fun v => bd f fun x => bd g fun y => setItemM x y v) := by
  intro p hsx hr W0 val v hv W st s hle I b st' e Q E hQ
  obtain ⟨x, st1, e1, e2⟩ := bd_some e
  obtain ⟨y, st2, e3, e4⟩ := bd_some e2
  rw [arm_assign_Subscript]
  refine wpAny_bind (wpAny_holding (h1 p hsx hr W W st s (Le.refl _) I x st1 e1 _ E fun W1 ov s1 x1 I1 r1 => ?_))
  refine wpAny_bind (wpAny_holding (h2 p hsx hr W1 W1 st1 s1 (Le.refl _) I1 y st2 e3 _ E fun W2 iv s2 x2 I2 r2 => ?_))
  refine wpAny_bind (wpAny_standAt (wpAny_bind (wpAny_holding ?_)))
  refine setItem_ok (r1.mono x2.le) r2 ((hv.mono hle).mono (x1.le.trans x2.le)) W2 st2 s2 (Le.refl _) I2 b st' e4 _ E fun W3 u s3 x3 I3 r3 => ?_
  exact wpAny_release (hQ W3 _ s3 ((x1.trans x2).trans x3) I3 trivial)
noncomputable def lenM : List AV → Cm AV := fun xs st => match xs with
  | [x] => (match itemsM x st with | some (ys, _) => if ys.length ≤ 100000 then some (.int ys.length, st) else .none | .none => .none)
  | _ => .none
theorem len_ok : OkCall c n (.builtin "len") lenM := by
  intro p hr W0 vs xs hv W st s hle I b st' e Q E hQ
  unfold lenM at e
  split at e
  · split at e
    · rename_i ys q he
      split at e
      · rename_i hsz
        cases e
        cases hv with
        | cons h1 h2 =>
          cases h2
          obtain ⟨_, a, us, m, rfl, h3, h4⟩ := items_at I (h1.mono hle) he
          have hl := h4.length
          refine len_list (items := us.toArray) ⟨_, h3, rfl, _, rfl⟩ (by rw [List.size_toArray]; omega) ?_
          rw [List.size_toArray, hl]
          exact hQ W _ _ ((Ext.refl ..).toks _) (I.toks _) (.int _ _)
      · cases e
    · cases e
  · cases e
noncomputable def items2M : AV → Cm (List AV) := fun x st => match x with
  | .lsb xs => some (xs, st)
  | x => itemsM x st
theorem items2_at {p : Pl} {W : Wd} {st st' : AS} {s : Shared} (I : Inv c p W st s) {v : Value} {x : AV} {xs : List AV} (hv : VR W v x) (e : items2M x st = some (xs, st')) :
    ∃ a vs, v = .ref a ∧ s.heap.IsList a (List.toArray vs) ∧ VRs W vs xs := by
  cases hv with
  | lsb h h1 h2 r => simp only [items2M] at e; cases e; exact ⟨_, _, rfl, ⟨_, I.hr.frz _ _ h, h1, _, h2⟩, r⟩
  | lst h r => obtain ⟨_, a, vs, m, e1, e2, e3⟩ := items_at I (.lst h r) e; exact ⟨a, vs, e1, ⟨_, e2, rfl, _, rfl⟩, e3⟩
  | lob k hk => obtain ⟨_, a, vs, m, e1, e2, e3⟩ := items_at I (.lob k hk) e; exact ⟨a, vs, e1, ⟨_, e2, rfl, _, rfl⟩, e3⟩
  | _ => simp only [items2M, itemsM] at e; cases e
noncomputable def addLM : AV → AV → Cm AV := fun x y st => match itemsM x st, items2M y st with
  | some (xs, _), some (ys, _) => if xs.length + ys.length ≤ 100000 then some (.lst (xs ++ ys), st) else .none
  | _, _ => .none
theorem addL_ok : OkBin c n .Add addLM := by
  intro p hr W0 a b x y ha hb W st s hle I v st' e Q E hQ
  unfold addLM at e
  split at e
  · rename_i xs q1 ys q2 h1 h2
    split at e
    · rename_i hsz
      cases e
      obtain ⟨_, l, vs, m, rfl, h3, h4⟩ := items_at I (ha.mono hle) h1
      obtain ⟨l2, ws, rfl, ⟨⟨cls2, dd2, data2, sl2⟩, ho2, hc2, n2, hd2⟩, h6⟩ := items2_at I (hb.mono hle) h2
      simp only at hc2 hd2
      subst hc2 hd2
      have e1 : vs.toArray ++ ws.toArray = (vs ++ ws).toArray := by simp
      have l1 := h4.length
      have l2 := h6.length
      refine concat_meets ⟨_, h3, rfl⟩ ⟨_, ho2, rfl⟩ noFill_list_add seq_list_add PySem.F.slot_list_add PySem.F.entry_list_add (PySem.F.args_list_add_2 _ _) (list_addW _ _ vs.toArray ws.toArray m n2 .none dd2 #[] sl2 (by rw [List.size_toArray, List.size_toArray, sizeLine_eq]; omega)) ⟨h3, ho2, ?_⟩
      rw [e1]
      obtain ⟨I', x'⟩ := I.pushFrz (listOf (vs ++ ws).toArray 0) s.toks
      exact hQ _ _ _ x' I' (.lst (n := 0) Wd.set_self ((h4.append h6).mono x'.le))
    · cases e
  · cases e
noncomputable def mulLM : AV → AV → Cm AV := fun x y st => match y.int? with
  | some k => (match itemsM x st with
    | some (xs, _) => if 0 ≤ k ∧ k ≤ 100000 ∧ xs.length * k.toNat ≤ 100000 then some (.lst (List.replicate k.toNat xs).flatten, st) else .none
    | .none => .none)
  | .none => .none
theorem VRs.flat {W : Wd} {vs : List Value} {xs : List AV} (h : VRs W vs xs) : ∀ k : Nat, VRs W (List.replicate k vs).flatten (List.replicate k xs).flatten
  | 0 => .nil
  | k + 1 => by rw [List.replicate_succ, List.replicate_succ, List.flatten_cons, List.flatten_cons]; exact h.append (h.flat k)
theorem mulL_ok : OkBin c n .Mult mulLM := by
  intro p hr W0 a b x y ha hb W st s hle I v st' e Q E hQ
  unfold mulLM at e
  split at e
  · rename_i k ek
    obtain rfl := AV.int_of ek
    obtain ⟨t, rfl⟩ := hb.inv_int
    split at e
    · rename_i xs q1 h1
      split at e
      · rename_i hk
        cases e
        obtain ⟨_, l, vs, m, rfl, h3, h4⟩ := items_at I (ha.mono hle) h1
        have hl := h4.length
        obtain ⟨k0, k1, k2⟩ := hk
        have k3 : vs.length * k.toNat ≤ 100000 := by rw [hl]; exact k2
        have k4 : vs.toArray.size * k.toNat ≤ 100000 := by rw [List.size_toArray]; exact k3
        refine wpAny_binaryOp_repeat_ref (T := "list") (U := "int") (by decide) ⟨_, h3, rfl⟩ (fun s' => typeIs_int s' k t) noFill_list_mul F.fills_int_mul F.slot_int_rmul repeat_list F.slot_int_index.lookup
          (call_meets F.slot_int_rmul (typeIs_int s k t) F.entry_int_rmul (F.args_int_rmul_2 _ _) (int___rmul___int_list k t l vs.toArray m)
            ⟨h3, rfl, ⟨_, h3, rfl⟩, call_meets F.slot_list_mul ⟨_, h3, rfl⟩ F.entry_list_mul (F.args_list_mul_2 _ _)
              (AutoListH.list___mul___list_int_3 l vs.toArray m k t (by simp [Builtin.List.listFitsIndex]; omega) (by omega) (by simp [Builtin.List.listTooLong, sizeLine]; omega))
              ⟨h3, ?_⟩⟩)
        rw [listMul_foldl_if]
        obtain ⟨I', x'⟩ := I.pushFrz (listOf (List.replicate k.toNat vs).flatten.toArray 0) s.toks
        exact hQ _ _ _ x' I' (.lst (n := 0) Wd.set_self ((h4.flat _).mono x'.le))
      · cases e
    · cases e
  · cases e
end
end Mine

namespace Mine

noncomputable def eqAll (f : AV → AV → Option Bool) : List AV → List AV → Option Bool
  | [], [] => some true
  | x :: xs, y :: ys => (match f x y with
      | some a => (match eqAll f xs ys with | some b => some (a && b) | .none => .none)
      | .none => .none)
  | _, _ => some false
theorem eqAll_idx {W : Wd} {f : AV → AV → Option Bool} {P : Value → Value → Bool → Prop} (hf : ∀ v w x y b, VR W v x → VR W w y → f x y = some b → P v w b) : ∀ {vs ws : List Value} {xs ys : List AV} {b : Bool}, VRs W vs xs → VRs W ws ys → eqAll f xs ys = some b → vs.length = ws.length →
    ∃ e : Nat → Bool, (∀ j (h1 : j < vs.length) (h2 : j < ws.length), P vs[j] ws[j] (e j)) ∧ (List.range vs.length).all e = b
  | _, _, _, _, b, .nil, .nil, h, _ => by cases h; exact ⟨fun _ => true, fun j h1 _ => absurd h1 (Nat.not_lt_zero _), rfl⟩
  | _, _, _, _, b, .nil, .cons _ _, _, hl => by cases hl
  | _, _, _, _, b, .cons _ _, .nil, _, hl => by cases hl
  | v :: vs, w :: ws, x :: xs, y :: ys, b, .cons a1 r1, .cons a2 r2, h, hl => by
    simp only [eqAll] at h
    split at h
    · rename_i a ha
      split at h
      · rename_i b' hb
        cases h
        obtain ⟨e, h1, h2⟩ := eqAll_idx hf r1 r2 hb (by simpa using hl)
        refine ⟨fun j => match j with | 0 => a | j + 1 => e j, fun j q1 q2 => ?_, ?_⟩
        · cases j with
          | zero => exact hf v w x y a a1 a2 ha
          | succ j => exact h1 j (by simpa using q1) (by simpa using q2)
        · rw [List.length_cons, List.range_succ_eq_map, List.all_cons, List.all_map]
          rw [← h2]; rfl
      · cases h
    · cases h
section
variable {c : Cx} {n : Nat} {sx : Sx}
open PySem.SeqAt

inductive Sc where
  | cn
  | cb (b : Bool)
  | ci (i : Int)
  | cs (s : Str)
noncomputable def AV.sc : AV → Option Sc
  | .none => some .cn
  | .bool b => some (.cb b)
  | .int i => some (.ci i)
  | .str s => some (.cs s)
  | _ => .none
noncomputable def Sc.Of (v : Value) : Sc → Prop
  | .cn => v = .none
  | .cb b => v = .bool b
  | .ci i => ∃ t, v = .int i t
  | .cs x => ∃ t, v = .str x t
theorem VR.sc {W : Wd} {v : Value} {x : AV} {k : Sc} (h : VR W v x) (e : x.sc = some k) : Sc.Of v k := by
  unfold AV.sc at e
  split at e
  · cases e; exact h.inv_none
  · cases e; exact h.inv_bool
  · cases e; exact h.inv_int
  · cases e; exact h.inv_str
  · cases e
noncomputable def Sc.eq : Sc → Sc → Option Bool
  | .cn, .cn => some true
  | .cb a, .cb c => some (a == c)
  | .ci a, .ci c => some (a == c)
  | .cs a, .cs c => some (a == c)
  | .cb _, .ci _ => .none
  | .ci _, .cb _ => .none
  | _, _ => some false
theorem Sc.eq_at {A : Around} {s : Shared} {v w : Value} {a d : Sc} {b : Bool} (hv : Sc.Of v a) (hw : Sc.Of w d) (e : a.eq d = some b) : EqAt A s v w b ∧ RcAt A s v w b ∧ RcNeAt A s v w (!b) := by
  cases a with
  | cn =>
    obtain rfl := hv
    cases d with
    | cn => cases e; obtain rfl := hw; exact ⟨EqAt.same _, RcAt.none_none, RcNeAt.none_none⟩
    | cb _ => cases e; obtain rfl := hw; exact ⟨EqAt.none_bool _, RcAt.none_bool _, RcNeAt.none_bool _⟩
    | ci _ => cases e; obtain ⟨_, rfl⟩ := hw; exact ⟨EqAt.none_int _ _, RcAt.none_int _ _, RcNeAt.none_int _ _⟩
    | cs _ => cases e; obtain ⟨_, rfl⟩ := hw; exact ⟨EqAt.none_str _ _, RcAt.none_str _ _, RcNeAt.none_str _ _⟩
  | cb a =>
    obtain rfl := hv
    cases d with
    | cn => cases e; obtain rfl := hw; exact ⟨EqAt.bool_none _, RcAt.bool_none _, RcNeAt.bool_none _⟩
    | cb _ => cases e; obtain rfl := hw; exact ⟨EqAt.bool_bool _ _, RcAt.bool_bool _ _, RcNeAt.bool_bool _ _⟩
    | ci _ => cases e
    | cs _ => cases e; obtain ⟨_, rfl⟩ := hw; exact ⟨EqAt.bool_str _ _ _, RcAt.bool_str _ _ _, RcNeAt.bool_str _ _ _⟩
  | ci a =>
    obtain ⟨_, rfl⟩ := hv
    cases d with
    | cn => cases e; obtain rfl := hw; exact ⟨EqAt.int_none _ _, RcAt.int_none _ _, RcNeAt.int_none _ _⟩
    | cb _ => cases e
    | ci _ => cases e; obtain ⟨_, rfl⟩ := hw; exact ⟨EqAt.int_int _ _ _ _, RcAt.int_int _ _ _ _, RcNeAt.int_int _ _ _ _⟩
    | cs _ => cases e; obtain ⟨_, rfl⟩ := hw; exact ⟨EqAt.int_str _ _ _ _, RcAt.int_str _ _ _ _, RcNeAt.int_str _ _ _ _⟩
  | cs a =>
    obtain ⟨_, rfl⟩ := hv
    cases d with
    | cn => cases e; obtain rfl := hw; exact ⟨EqAt.str_none _ _, RcAt.str_none _ _, RcNeAt.str_none _ _⟩
    | cb _ => cases e; obtain rfl := hw; exact ⟨EqAt.str_bool _ _ _, RcAt.str_bool _ _ _, RcNeAt.str_bool _ _ _⟩
    | ci _ => cases e; obtain ⟨_, rfl⟩ := hw; exact ⟨EqAt.str_int _ _ _ _, RcAt.str_int _ _ _ _, RcNeAt.str_int _ _ _ _⟩
    | cs _ => cases e; obtain ⟨_, rfl⟩ := hw; exact ⟨EqAt.str_str _ _ _ _, RcAt.str_str _ _ _ _, RcNeAt.str_str _ _ _ _⟩
theorem Sc.one {v : Value} {a d : Sc} (hv : Sc.Of v a) (hw : Sc.Of v d) : a = d := by
  cases a with
  | cn => obtain rfl := hv; cases d with | cn => rfl | cb _ => cases hw | ci _ => obtain ⟨_, q⟩ := hw; cases q | cs _ => obtain ⟨_, q⟩ := hw; cases q
  | cb _ => obtain rfl := hv; cases d with | cn => cases hw | cb _ => cases hw; rfl | ci _ => obtain ⟨_, q⟩ := hw; cases q | cs _ => obtain ⟨_, q⟩ := hw; cases q
  | ci _ => obtain ⟨_, rfl⟩ := hv; cases d with | cn => cases hw | cb _ => cases hw | ci _ => obtain ⟨_, q⟩ := hw; cases q; rfl | cs _ => obtain ⟨_, q⟩ := hw; cases q
  | cs _ => obtain ⟨_, rfl⟩ := hv; cases d with | cn => cases hw | cb _ => cases hw | ci _ => obtain ⟨_, q⟩ := hw; cases q | cs _ => obtain ⟨_, q⟩ := hw; cases q; rfl
theorem Sc.self {a : Sc} : a.eq a = some true := by cases a <;> first | rfl | exact congrArg some (beq_self_eq_true _)
noncomputable def eqF (st : AS) : Nat → AV → AV → Option Bool
  | 0, _, _ => .none
  | d + 1, x, y => (match x.sc, y.sc with
    | some a, some b => a.eq b
    | _, _ => (match itemsM x st, itemsM y st with
      | some (xs, _), some (ys, _) => if xs.length = ys.length then eqAll (eqF st d) xs ys else some false
      | _, _ => .none))
theorem eqF_inv {st : AS} {d : Nat} {x y : AV} {b : Bool} (h : eqF st (d + 1) x y = some b) : (∃ a c, x.sc = some a ∧ y.sc = some c ∧ a.eq c = some b) ∨ ∃ xs ys q1 q2, itemsM x st = some (xs, q1) ∧ itemsM y st = some (ys, q2) ∧ (if xs.length = ys.length then eqAll (eqF st d) xs ys else some false) = some b := by
  rw [eqF] at h
  split at h
  · rename_i a c h1 h2; exact .inl ⟨a, c, h1, h2, h⟩
  · split at h
    · rename_i xs q1 ys q2 h1 h2; exact .inr ⟨xs, ys, q1, q2, h1, h2, h⟩
    · cases h
theorem items_sc {x : AV} {st : AS} {r : List AV × AS} (h : itemsM x st = some r) : x.sc = .none := by
  cases x <;> first | rfl | cases h
theorem eqAll_inv {f : AV → AV → Option Bool} {x y : AV} {xs ys : List AV} {b : Bool} (h : eqAll f (x :: xs) (y :: ys) = some b) : ∃ a c, f x y = some a ∧ eqAll f xs ys = some c ∧ b = (a && c) := by
  simp only [eqAll] at h
  split at h
  · rename_i a ha
    split at h
    · rename_i c hc; cases h; exact ⟨a, c, ha, hc, rfl⟩
    · cases h
  · cases h
theorem eqAll_self {W : Wd} {f : AV → AV → Option Bool} (hf : ∀ v x y b, VR W v x → VR W v y → f x y = some b → b = true) : ∀ {vs : List Value} {xs ys : List AV} {b : Bool}, VRs W vs xs → VRs W vs ys → eqAll f xs ys = some b → b = true
  | _, _, _, b, .nil, .nil, h => by cases h; rfl
  | v :: vs, x :: xs, y :: ys, b, .cons a1 r1, .cons a2 r2, h => by
    obtain ⟨a, c, h1, h2, rfl⟩ := eqAll_inv h
    rw [hf v x y a a1 a2 h1, eqAll_self hf r1 r2 h2]; rfl
theorem eqF_self {p : Pl} {W : Wd} {st : AS} {s : Shared} (I : Inv c p W st s) : ∀ (d : Nat) (v : Value) (x y : AV) (b : Bool), VR W v x → VR W v y → eqF st d x y = some b → b = true
  | 0, _, _, _, _, _, _, h => by cases h
  | d + 1, v, x, y, b, hx, hy, h => by
    rcases eqF_inv h with ⟨a, k, h1, h2, h3⟩ | ⟨xs, ys, q1, q2, h1, h2, h3⟩
    · obtain rfl := Sc.one (hx.sc h1) (hy.sc h2)
      rw [Sc.self] at h3; exact (Option.some.inj h3).symm
    · obtain ⟨_, l1, us, m1, rfl, g1, r1⟩ := items_at I hx h1
      obtain ⟨_, l2, ts, m2, e, g2, r2⟩ := items_at I hy h2
      cases e
      rw [g1] at g2
      cases g2
      rw [if_pos (by rw [← r1.length, ← r2.length])] at h3
      exact eqAll_self (fun v x y b h1 h2 h3 => eqF_self I d v x y b h1 h2 h3) r1 r2 h3
theorem eqF_ok {p : Pl} {W : Wd} {st : AS} {s : Shared} (I : Inv c p W st s) : ∀ (d : Nat) {A : Around} {v w : Value} {x y : AV} {b : Bool}, A.units + d < cLine → VR W v x → VR W w y → eqF st d x y = some b →
    EqAt A s v w b ∧ RcAt A s v w b ∧ RcNeAt A s v w (!b)
  | 0, _, _, _, _, _, _, _, _, _, h => by cases h
  | d + 1, A, v, w, x, y, b, hu, hv, hw, h => by
    rcases eqF_inv h with ⟨a, k, h1, h2, h3⟩ | ⟨xs, ys, q1, q2, h1, h2, h3⟩
    · exact Sc.eq_at (hv.sc h1) (hw.sc h2) h3
    · have ih : ∀ v w x y b, VR W v x → VR W w y → eqF st d x y = some b → EqAt A.in1 s v w b := fun v w x y b h1 h2 h3 => (eqF_ok I d (A := A.in1) (by show A.units + 1 + d < cLine; omega) h1 h2 h3).1
      have hu' : A.units < cLine := Nat.lt_of_le_of_lt (Nat.le_add_right _ _) hu
      have hself : v = w → b = true := fun q => by subst q; exact eqF_self I (d + 1) v x y b hv hw h
      obtain ⟨_, l1, us, m1, rfl, g1, r1⟩ := items_at I hv h1
      obtain ⟨_, l2, ts, m2, rfl, g2, r2⟩ := items_at I hw h2
      have L1 : s.heap.IsList l1 us.toArray := ⟨_, g1, rfl, _, rfl⟩
      have L2 : s.heap.IsList l2 ts.toArray := ⟨_, g2, rfl, _, rfl⟩
      have eqOf : RcAt A s (.ref l1) (.ref l2) b → EqAt A s (.ref l1) (.ref l2) b := fun R => by
        by_cases hne : l1 = l2
        · subst hne; rw [hself rfl]; exact EqAt.same _
        · exact EqAt.of_refs hne R
      split at h3
      · rename_i hl
        have hl' : us.length = ts.length := by rw [r1.length, r2.length, hl]
        obtain ⟨e, he, hb⟩ := eqAll_idx ih r1 r2 h3 hl'
        have hsz : us.toArray.size = ts.toArray.size := by rw [List.size_toArray, List.size_toArray, hl']
        have he' : ∀ j (h1 : j < us.toArray.size) (h2 : j < ts.toArray.size), EqAt A.in1 s us.toArray[j] ts.toArray[j] (e j) := fun j h1 h2 => he j h1 h2
        have R := RcAt.lists L1 L2 hsz hu' he'
        have N := RcNeAt.lists L1 L2 hsz hu' he'
        rw [List.size_toArray, hb] at R N
        exact ⟨eqOf R, R, N⟩
      · rename_i hl
        cases h3
        have hsz : (us.toArray.size != ts.toArray.size) = true := by rw [List.size_toArray, List.size_toArray, r1.length, r2.length]; exact bne_iff_ne.mpr hl
        have R := RcAt.lists_lengths L1 L2 hsz hu'
        exact ⟨eqOf R, R, RcNeAt.lists_lengths L1 L2 hsz hu'⟩
noncomputable def eqM : AV → AV → Cm Bool := fun x y st => match eqF st 8 x y with
  | some b => some (b, st)
  | .none => .none
noncomputable def neM : AV → AV → Cm Bool := fun x y st => match eqF st 8 x y with
  | some b => some (!b, st)
  | .none => .none
theorem eq_ok : OkCmp c n .Eq eqM := by
  intro p hr W0 a b x y ha hb W st s hle I r st' e Q E hQ
  unfold eqM at e
  split at e
  · rename_i bb h
    cases e
    exact (eqF_ok I 8 (by have := hr.units; omega) (ha.mono hle) (hb.mono hle) h).2.1 _ _ E Q (hQ W _ s (Ext.refl ..) I rfl)
  · cases e
theorem ne_ok : OkCmp c n .NotEq neM := by
  intro p hr W0 a b x y ha hb W st s hle I r st' e Q E hQ
  unfold neM at e
  split at e
  · rename_i bb h
    cases e
    exact (eqF_ok I 8 (by have := hr.units; omega) (ha.mono hle) (hb.mono hle) h).2.2 _ _ E Q (hQ W _ s (Ext.refl ..) I rfl)
  · cases e
end
end Mine

namespace Mine

section
variable {c : Cx} {n : Nat} {sx : Sx}

noncomputable def int2 {α : Type} (f : Int → Int → Cm α) (x y : AV) : Cm α := match x.int?, y.int? with
  | some a, some b => f a b
  | _, _ => no
theorem int2_inv {α : Type} {f : Int → Int → Cm α} {x y : AV} {st : AS} {r : α × AS} (h : int2 f x y st = some r) : ∃ a b, x = .int a ∧ y = .int b ∧ f a b st = some r := by
  unfold int2 at h
  cases q1 : x.int? with
  | none => rw [q1] at h; cases h
  | some a =>
    cases q2 : y.int? with
    | none => rw [q1, q2] at h; cases h
    | some b => rw [q1, q2] at h; exact ⟨a, b, AV.int_of q1, AV.int_of q2, h⟩
theorem OkBin.int {op : Operator} {f : Int → Int → Cm AV} (h : ∀ p : Pl, Room n p.A → ∀ W i t j u, Ok c p W (binaryOp op (.int i t) (.int j u)) VR (f i j)) : OkBin c n op (int2 f) := by
  intro p hr W0 a b x y ha hb W st s hle I v st' e Q E hQ
  obtain ⟨i, j, rfl, rfl, e⟩ := int2_inv e
  obtain ⟨t, rfl⟩ := ha.inv_int
  obtain ⟨u, rfl⟩ := hb.inv_int
  exact h p hr W i t j u W st s (Le.refl _) I v st' e Q E hQ
theorem OkCmp.int {op : CmpOp} {f : Int → Int → Bool} (h : ∀ (A : Around) (E : Value → Shared → Prop) (s : Shared) i t j u (Q : Value → Shared → Prop), Q (.bool (f i j)) s → wpAny (model c.prog c.w) A (compareOp op (.int i t) (.int j u)) Q E s) : OkCmp c n op (int2 fun a b => pu (f a b)) := by
  intro p hr W0 a b x y ha hb W st s hle I v st' e Q E hQ
  obtain ⟨i, j, rfl, rfl, e⟩ := int2_inv e
  obtain ⟨t, rfl⟩ := ha.inv_int
  obtain ⟨u, rfl⟩ := hb.inv_int
  cases e
  exact h _ _ _ _ _ _ _ _ (hQ W _ s (Ext.refl ..) I rfl)
noncomputable def addM : AV → AV → Cm AV := fun x y => match x.int? with
  | some _ => int2 (fun a b => pu (.int (a + b))) x y
  | .none => addLM x y
theorem add_ok : OkBin c n .Add addM := by
  intro p hr W0 a b x y ha hb W st s hle I v st' e Q E hQ
  unfold addM at e
  cases q : x.int? with
  | some _ =>
    rw [q] at e
    exact OkBin.int (fun p hr W i t j u W st s hle I v st' e Q E hQ => by cases e; exact P.add_int (hQ W _ _ ((Ext.refl ..).toks _) (I.toks _) (.int _ _))) p hr W0 a b x y ha hb W st s hle I v st' e Q E hQ
  | none =>
    rw [q] at e
    exact addL_ok p hr W0 a b x y ha hb W st s hle I v st' e Q E hQ
noncomputable def subM : AV → AV → Cm AV := int2 fun a b => pu (.int (a - b))
theorem sub_ok : OkBin c n .Sub subM := OkBin.int fun p hr W0 i t j u W st s hle I v st' e Q E hQ => by
  cases e; exact P.sub_int (hQ W _ _ ((Ext.refl ..).toks _) (I.toks _) (.int _ _))
noncomputable def modM : AV → AV → Cm AV := int2 fun a b => if 0 < b then pu (.int (a % b)) else no
theorem mod_ok : OkBin c n .Mod modM := OkBin.int fun p hr W0 i t j u W st s hle I v st' e Q E hQ => by
  split at e
  · rename_i hj
    cases e
    refine mod_int' (Int.ne_of_gt hj) ?_
    rw [Int.fmod_eq_emod_of_nonneg _ (Int.le_of_lt hj)]
    exact hQ W _ _ ((Ext.refl ..).toks _) (I.toks _) (.int _ _)
  · cases e
noncomputable def divM : AV → AV → Cm AV := int2 fun a b => if 0 < b ∧ b < 1000000 then pu (.int (a / b)) else no
theorem div_ok : OkBin c n .FloorDiv divM := OkBin.int fun p hr W0 i t j u W st s hle I v st' e Q E hQ => by
  split at e
  · rename_i hj
    cases e
    refine PyProof.Rows.floordiv_int (Int.ne_of_gt hj.1) ?_ (.inl (PyProof.noPylong_small (by omega)))
    rw [Int.fdiv_eq_ediv_of_nonneg _ (Int.le_of_lt hj.1)]
    exact hQ W _ _ ((Ext.refl ..).toks _) (I.toks _) (.int _ _)
  · cases e
noncomputable def ltM : AV → AV → Cm Bool := int2 fun a b => pu (decide (a < b))
theorem lt_ok : OkCmp c n .Lt ltM := OkCmp.int fun _ _ _ _ _ _ _ _ h => P.lt_int h
noncomputable def gtM : AV → AV → Cm Bool := int2 fun a b => pu (decide (a > b))
theorem gt_ok : OkCmp c n .Gt gtM := OkCmp.int fun _ _ _ _ _ _ _ _ h => P.gt_int h
noncomputable def AV.isNo : AV → Option Bool
  | .none => some true
  | .unb => .none
  | .val _ => .none
  | _ => some false
noncomputable def isF : AV → AV → Option Bool := fun x y => match y with
  | .none => x.isNo
  | .ins j => (match x with | .ins k => some (k == j) | .none => some false | _ => .none)
  | _ => .none
theorem isF_inv {x y : AV} {r : Bool} (h : isF x y = some r) : (y = .none ∧ x.isNo = some r) ∨ ∃ j, y = .ins j ∧ ((x = .none ∧ r = false) ∨ ∃ k, x = .ins k ∧ r = (k == j)) := by
  unfold isF at h
  split at h
  · exact .inl ⟨rfl, h⟩
  · split at h
    · cases h; exact .inr ⟨_, rfl, .inr ⟨_, rfl, rfl⟩⟩
    · cases h; exact .inr ⟨_, rfl, .inl ⟨rfl, rfl⟩⟩
    · cases h
  · cases h
theorem isNo_eq {W : Wd} {a : Value} {x : AV} {r : Bool} (ha : VR W a x) (e : x.isNo = some r) : (a == Value.none) = r := by
  cases ha <;> first | (cases e; rfl) | cases e
theorem isF_ok {p : Pl} {W : Wd} {st : AS} {s : Shared} (I : Inv c p W st s) {a b : Value} {x y : AV} {r : Bool} (ha : VR W a x) (hb : VR W b y) (e : isF x y = some r) {A : Around} {E : Value → Shared → Prop} :
    (∀ Q : Value → Shared → Prop, Q (.bool r) s → wpAny (model c.prog c.w) A (compareOp .Is a b) Q E s) ∧ (∀ Q : Value → Shared → Prop, Q (.bool (!r)) s → wpAny (model c.prog c.w) A (compareOp .IsNot a b) Q E s) := by
  rcases isF_inv e with ⟨rfl, e⟩ | ⟨j, rfl, ⟨rfl, rfl⟩ | ⟨k, rfl, rfl⟩⟩
  · obtain rfl := hb.inv_none
    have z := isNo_eq ha e
    exact ⟨fun Q h => is_none (z ▸ h), fun Q h => isNot_none (z ▸ h)⟩
  · obtain ⟨rfl, hj⟩ := hb.inv_ins
    obtain rfl := ha.inv_none
    exact ⟨fun Q h => wpAny_is_other rfl nofun h, fun Q h => wpAny_isNot_other rfl nofun h⟩
  · obtain ⟨rfl, hj⟩ := hb.inv_ins
    obtain ⟨rfl, hk⟩ := ha.inv_ins
    by_cases hkj : k = j
    · subst hkj
      rw [beq_self_eq_true]
      exact ⟨fun Q h => wpAny_is_ref_self h, fun Q h => wpAny_isNot_ref_self h⟩
    · have hne : W.ia k ≠ W.ia j := fun q => by
        have r1 := (I.hr.iaR k hk).1
        rw [q, (I.hr.iaR j hj).1] at r1
        cases r1; exact hkj rfl
      obtain ⟨es1, m1, o1, _⟩ := I.hr.insA k _ (List.getElem?_eq_getElem (by rw [← I.hr.ni]; exact hk))
      obtain ⟨es2, m2, o2, _⟩ := I.hr.insA j _ (List.getElem?_eq_getElem (by rw [← I.hr.ni]; exact hj))
      rw [beq_false_of_ne hkj]
      exact ⟨fun Q h => wpAny_is_ref_other hne o1 o2 nofun h, fun Q h => wpAny_isNot_ref_other hne o1 o2 nofun h⟩
noncomputable def isM : AV → AV → Cm Bool := fun x y st => match isF x y with
  | some b => some (b, st)
  | .none => .none
noncomputable def isNotM : AV → AV → Cm Bool := fun x y st => match isF x y with
  | some b => some (!b, st)
  | .none => .none
theorem is_ok : OkCmp c n .Is isM := by
  intro p hr W0 a b x y ha hb W st s hle I v st' e Q E hQ
  unfold isM at e
  split at e
  · rename_i r h; cases e
    exact (isF_ok I (ha.mono hle) (hb.mono hle) h).1 Q (hQ W _ s (Ext.refl ..) I rfl)
  · cases e
theorem isNot_ok : OkCmp c n .IsNot isNotM := by
  intro p hr W0 a b x y ha hb W st s hle I v st' e Q E hQ
  unfold isNotM at e
  split at e
  · rename_i r h; cases e
    exact (isF_ok I (ha.mono hle) (hb.mono hle) h).2 Q (hQ W _ s (Ext.refl ..) I rfl)
  · cases e
end
end Mine

namespace Mine

section
variable {c : Cx} {n : Nat} {sx : Sx}

noncomputable def NewW (W : Wd) (h : Heap) (W' : Wd) (h' : Heap) : Prop := W' = W ∨ ∃ T o, h.get? T = .none ∧ h'.get? T = some o ∧ W' = W.set T (.frz o)
noncomputable def goesU : Expr → Bool
  | .Tuple .. => true
  | _ => false
noncomputable def goesT : Expr → Bool
  | .Name .. => true
  | .Tuple .. => true
  | _ => false
structure Itr (c : Cx) (A : Around) (I : Addr) (fp wr : List Addr) (gt : Expr → Bool) {σ : Type} (nx : σ → AS → Option (Option (AV × σ))) (J : σ → Wd → AS → Heap → Prop) : Prop where
  frame : ∀ (own : Addr → Prop) i W W' st st' s s', (∀ b ∈ fp, ¬ own b) → J i W st s.heap → HR c W st s.heap → Ext own W s W' s' → HR c W' st' s'.heap → J i W' st' s'.heap
  alive : ∀ i W st h, J i W st h → ∀ b ∈ fp, ∃ o, h.get? b = some o
  wrOk : ∀ i W st h, J i W st h → ∀ b ∈ wr, W.role b = .oth ∧ ∃ o, h.get? b = some o
  next : ∀ i i' x W st s tgt, gt tgt = true → J i W st s.heap → HR c W st s.heap → nx i st = some (some (x, i')) → ∀ (Q : Value → Shared → Prop) (E : Value → Shared → Prop),
    (∀ W' v h' tk, NewW W s.heap W' h' → VR W' v x → J i' W' st h' → (∀ b o, b ∉ wr → s.heap.get? b = some o → h'.get? b = some o) → Q v { s with heap := h', toks := tk }) →
    wpAny (model c.prog c.w) A (pyNext (.ref I)) (fun r s1 => match r with | .none => False | some v => wpAny (model c.prog c.w) A (letOwnedTupleGo tgt (.ref I) v) (fun _ s2 => Q v s2) E s1) E s
  stop : ∀ i W st s, J i W st s.heap → HR c W st s.heap → nx i st = some .none → ∀ (Q : Shared → Prop) (E : Value → Shared → Prop),
    (∀ h' tk, (∀ b o, b ∉ wr → s.heap.get? b = some o → h'.get? b = some o) → Q { s with heap := h', toks := tk }) →
    wpAny (model c.prog c.w) A (pyNext (.ref I)) (fun r s1 => match r with | .none => Q s1 | some _ => False) E s
  self : ∀ i W st s, J i W st s.heap → ∀ (Q : Value → Shared → Prop) (E : Value → Shared → Prop), Q (.ref I) s → wpAny (model c.prog c.w) A (pyIter (.ref I)) Q E s
noncomputable def forG {σ : Type} (nx : σ → AS → Option (Option (AV × σ))) (tgt : AV → Cm Unit) (body : Cm AF) : Nat → σ → Cm AF
  | 0, _ => no
  | m + 1, i => fun st => match nx i st with
    | .none => .none
    | some .none => some (.next, st)
    | some (some (x, i')) => (bd (tgt x) fun _ => thenM body (forG nx tgt body m i')) st
theorem poke_wr {p : Pl} {W0 W : Wd} {st : AS} {s0 s : Shared} {h' : Heap} {tk : Nat} {wr : List Addr} (I0 : ∀ b ∈ wr, s0.heap.get? b = .none) (hb0 : ∀ b ∈ wr, c.h0.get? b = .none) (hL : ∀ b ∈ wr, b ≠ p.env.locals) (hC : ∀ b ∈ wr, ∀ y, p.env.cells.lookup y ≠ some b)
    (hrole : ∀ b ∈ wr, W.role b = .oth) (x : Ext p.Own W0 s0 W s) (I : Inv c p W st s) (k : ∀ b o, b ∉ wr → s.heap.get? b = some o → h'.get? b = some o) :
    Inv c p W st { s with heap := h', toks := tk } ∧ Ext p.Own W0 s0 W { s with heap := h', toks := tk } := by
  refine ⟨⟨I.hr.grow fun b o hb e => k b o (fun q => ?_) e, I.fr.grow fun b o hb e => k b o (fun q => ?_) e⟩, ⟨x.le, fun b o e => ?_, x.oth, fun b o hm hn e => k b o (fun q => ?_) (x.kept b o hm hn e), x.gens, x.os⟩⟩
  · rcases hb with ⟨o', hb⟩ | hb
    · rw [hb0 b q] at hb; cases hb
    · exact hb (hrole b q)
  · rcases hb with hb | ⟨y, hb⟩
    · exact hL b q hb
    · exact hC b q y hb
  · obtain ⟨o1, e1⟩ := x.alive b o e
    exact ⟨o1, k b o1 (fun q => by rw [I0 b q] at e; cases e) e1⟩
  · rw [I0 b q] at e; cases e
theorem newW_ok {p : Pl} {W0 W W' : Wd} {st : AS} {s0 s : Shared} {h' : Heap} {tk : Nat} (hN : NewW W s.heap W' h') (Iold : Inv c p W st s) (I : Inv c p W st { s with heap := h', toks := tk }) (x0 : Ext p.Own W0 s0 W s) (x : Ext p.Own W0 s0 W { s with heap := h', toks := tk }) :
    Inv c p W' st { s with heap := h', toks := tk } ∧ Ext p.Own W0 s0 W' { s with heap := h', toks := tk } ∧ Le W W' := by
  rcases hN with rfl | ⟨T, o, hT, hT', rfl⟩
  · exact ⟨I, x, Le.refl _⟩
  · have hr := Iold.hr.oth_of_none hT
    refine ⟨I.newFrz hr hT' (fun q => ?_) (fun y q => ?_), ⟨x.le.trans (Le.set hr), x.alive, fun b o e z => ?_, x.kept, x.gens, x.os⟩, Le.set hr⟩
    · obtain ⟨ml, ⟨o1, es, ep, ho, _⟩, _⟩ := Iold.fr.ns
      rw [← q, hT] at ho; cases ho
    · obtain ⟨v', o1, ho, _⟩ := Iold.fr.cells y T q
      rw [hT] at ho; cases ho
    · rw [Wd.set_other]
      · exact x.oth b o e z
      · intro q
        obtain ⟨o1, e1⟩ := x0.alive b o e
        rw [q, hT] at e1; cases e1
theorem loop_ok {p : Pl} {I : Addr} {fp wr : List Addr} {gt : Expr → Bool} {σ : Type} {nx : σ → AS → Option (Option (AV × σ))} {J : σ → Wd → AS → Heap → Prop} (T : Itr c p.A I fp wr gt nx J) (hfp : ∀ b ∈ fp, ¬ p.Own b) (hr : Room n p.A) {target : Expr} {body : List Stmt} {tgt : AV → Cm Unit} {fb : Cm AF}
    (hg : gt target = true) (h1 : ImplA c n p.sx target tgt) (h2 : ImplS c n p.sx body fb) {W0 : Wd} {s0 : Shared} (I0 : ∀ b ∈ wr, s0.heap.get? b = .none) (hb0 : ∀ b ∈ wr, c.h0.get? b = .none) (hL : ∀ b ∈ wr, b ≠ p.env.locals) (hC : ∀ b ∈ wr, ∀ y, p.env.cells.lookup y ≠ some b)
    {W : Wd} {st : AS} {s : Shared} (x : Ext p.Own W0 s0 W s) (Iv : Inv c p W st s) {m : Nat} {i : σ} (j : J i W st s.heap) {r : AF} {st' : AS} (e : forG nx tgt fb m i st = some (r, st')) {R : Result → Shared → Prop}
    (hR : ∀ W' fl s', Ext p.Own W0 s0 W' s' → Inv c p W' st' s' → FlowR W' fl r → R (.ok fl) s') : codeAny (model c.prog c.w) p.A (.forLoop target (.ref I) body [] p.env) R s := by
  refine codeAny_forLoop_any (fun k s' => ∃ W' st1 i', Ext p.Own W0 s0 W' s' ∧ Inv c p W' st1 s' ∧ J i' W' st1 s'.heap ∧ forG nx tgt fb k i' st1 = some (r, st')) ?_ m ⟨W, st, i, x, Iv, j, e⟩
  rintro k s1 ⟨W1, st1, i1, x1, Iv1, j1, e1⟩
  cases k with
  | zero => cases e1
  | succ k =>
    simp only [forG] at e1
    split at e1
    · cases e1
    · rename_i hnx
      cases e1
      refine wpAny_noRaise (wpAny_mono (T.stop i1 W1 st' s1 j1 Iv1.hr hnx (fun s2 => R (.ok .next) s2) (fun _ _ => False) fun h' tk hk => ?_) (fun q s2 hq => ?_) fun _ _ q => q)
      · obtain ⟨I2, x2⟩ := poke_wr (tk := tk) I0 hb0 hL hC (fun b hb => (T.wrOk i1 W1 st' s1.heap j1 b hb).1) x1 Iv1 hk
        exact hR W1 _ _ x2 I2 .next
      · cases q with
        | none => exact wpAny_execs_nil hq
        | some => exact hq.elim
    · rename_i xv i2 hnx
      obtain ⟨u, st2, e2, e3⟩ := bd_some e1
      obtain ⟨fr, st3, e4, e5⟩ := bd_some e3
      refine wpAny_noRaise (wpAny_mono (T.next i1 i2 xv W1 st1 s1 target hg j1 Iv1.hr hnx (fun v s2 => wpAny (model c.prog c.w) p.A (assign target p.env v) (fun _ s3 => wpAny (model c.prog c.w) p.A (execs body p.env) (fun f s4 => match f with
            | .next | .cont => ∃ m, m < k + 1 ∧ ∃ W' st1 i', Ext p.Own W0 s0 W' s4 ∧ Inv c p W' st1 s4 ∧ J i' W' st1 s4.heap ∧ forG nx tgt fb m i' st1 = some (r, st')
            | .brk => R (.ok .next) s4
            | .ret v => R (.ok (.ret v)) s4) (fun _ _ => False) s3) (fun _ _ => False) s2) (fun _ _ => False) fun W2 v h' tk hN rv j2 hk => ?_) (fun q s2 hq => ?_) fun _ _ q => q)
      · obtain ⟨Ia, xa⟩ := poke_wr (tk := tk) I0 hb0 hL hC (fun b hb => (T.wrOk i1 W1 st1 s1.heap j1 b hb).1) x1 Iv1 hk
        obtain ⟨I2, x2, le2⟩ := newW_ok hN Iv1 Ia x1 xa
        refine h1 p rfl hr W2 v xv rv W2 st1 _ (Le.refl _) I2 u st2 e2 _ _ fun W3 _ s3 x3 I3 _ => ?_
        have j3 := T.frame p.Own i2 W2 W3 st1 st2 { s1 with heap := h', toks := tk } s3 hfp j2 I2.hr x3 I3.hr
        refine h2 p rfl hr W3 W3 st2 s3 (Le.refl _) I3 fr st3 e4 _ _ fun W4 fl s4 x4 I4 r4 => ?_
        have j4 := T.frame p.Own i2 W3 W4 st2 st3 s3 s4 hfp j3 I3.hr x4 I4.hr
        cases r4 with
        | next => exact ⟨k, Nat.lt_succ_self _, W4, st3, i2, (x2.trans x3).trans x4, I4, j4, e5⟩
        | ret rv' => cases e5; exact hR W4 _ s4 ((x2.trans x3).trans x4) I4 (.ret rv')
      · cases q with
        | none => exact hq.elim
        | some v => exact wpAny_mono hq (fun _ s3 z => wpAny_noRaise (wpAny_mono z (fun _ s4 y => wpAny_noRaise y) fun _ _ q => q)) fun _ _ q => q.elim
noncomputable def ImplI (c : Cx) (n : Nat) (sx : Sx) (e : Expr) (gt : Expr → Bool) {σ : Type} (f : Cm σ) (nx : σ → AS → Option (Option (AV × σ))) : Prop :=
  ∀ p : Pl, p.sx = sx → Room n p.A → ∀ W st s, Inv c p W st s → ∀ i st', f st = some (i, st') → ∀ (Q : Value → Shared → Prop) (E : Value → Shared → Prop),
    (∀ W' s' I fp wr J, Ext p.Own W s W' s' → Inv c p W' st' s' → Itr c p.A I fp wr gt nx J → J i W' st' s'.heap → (∀ b ∈ wr, s.heap.get? b = .none) → (∀ b ∈ fp, ¬ p.Own b) → Q (.ref I) s') →
    wpAny (model c.prog c.w) p.A (eval e p.env) (fun x s1 => wpAny (model c.prog c.w) p.A (pyIter x) Q E s1) E s
noncomputable def forM' {σ : Type} (f : Cm σ) (size : σ → AS → Nat) (nx : σ → AS → Option (Option (AV × σ))) (tgt : AV → Cm Unit) (body : Cm AF) : Cm AF := bd f fun i st => forG nx tgt body (size i st) i st
theorem ImplS1.for {gt : Expr → Bool} {target iter : Expr} {body : List Stmt} {pos : Pos} {σ : Type} {f : Cm σ} {size : σ → AS → Nat} {nx : σ → AS → Option (Option (AV × σ))} {tgt : AV → Cm Unit} {fb : Cm AF} (h0 : ImplI c n sx iter gt f nx) (h1 : ImplA c n sx target tgt) (h2 : ImplS c n sx body fb)
    (hg : gt target = true := by rfl) (hs : ∀ env x, foldedSetIterable iter env x = pure x := by intro _ _; rfl) : ImplS1 c n sx (.For target iter body [] pos) (forM' f size nx tgt fb) := by
  intro p hsx hr W0 W st s hle I r st' e Q E hQ
  obtain ⟨i, st1, e1, e2⟩ := bd_some e
  subst hsx
  refine wpAny_For (h0 p rfl hr W st s I i st1 e1 _ E fun W1 s1 It fp wr J x1 I1 T j hwr hfp => ?_) (hs p.env)
  refine loop_ok T hfp hr hg h1 h2 hwr (fun b hb => I.hr.base_none (hwr b hb)) (fun b hb q => ?_) (fun b hb y q => ?_) x1 I1 j e2 (fun W' fl s' x' I' r' => hQ W' fl s' x' I' r')
  · obtain ⟨ml, ⟨o1, es, ep, ho, _⟩, _⟩ := I.fr.ns
    rw [← q, hwr b hb] at ho; cases ho
  · obtain ⟨v', o1, ho, _⟩ := I.fr.cells y b q
    rw [hwr b hb] at ho; cases ho
end
end Mine

namespace Mine

section
variable {c : Cx} {n : Nat} {sx : Sx}

noncomputable def nxL : List AV → AS → Option (Option (AV × List AV)) := fun xs _ => match xs with
  | [] => some .none
  | x :: r => some (some (x, r))
noncomputable def sizeL : List AV → AS → Nat := fun xs _ => xs.length + 1
structure JW (fp wr : List Addr) (N : Nat) (P : Nat → Value → Prop) (St : Nat → Heap → Prop) (xs : List AV) (W : Wd) (st : AS) (h : Heap) : Prop where
  at_ : ∃ i, i + xs.length = N ∧ St i h ∧ ∀ k v x, xs[k]? = some x → P (i + k) v → VR W v x
  fpOk : ∀ b ∈ fp, ¬ W.Mut b ∧ ∃ o, h.get? b = some o
  wrOk : ∀ b ∈ wr, W.role b = .oth
theorem itr_walks {A : Around} {I : Addr} {fp wr : List Addr} {N : Nat} {P : Nat → Value → Prop} {St : Nat → Heap → Prop} (Wk : Walks c.prog c.w A I fp wr N P St) (hal : ∀ i h, St i h → ∀ b ∈ fp, ∃ o, h.get? b = some o)
    (hgo : ∀ i (s : Shared) v tgt (Q : Unit → Shared → Prop) (E : Value → Shared → Prop), goesT tgt = true → St i s.heap → Q () s → wpAny (model c.prog c.w) A (letOwnedTupleGo tgt (.ref I) v) Q E s) : Itr c A I fp wr goesT nxL (JW fp wr N P St) where
  alive := fun xs W st h j b hb => (j.fpOk b hb).2
  frame := fun own xs W W' st st' s s' hno j Iv x Iv' => by
    obtain ⟨i, h1, h2, h3⟩ := j.at_
    have kp : ∀ b ∈ fp, ∀ o, s.heap.get? b = some o → s'.heap.get? b = some o := fun b hb o e => x.kept b o (j.fpOk b hb).1 (hno b hb) e
    refine ⟨⟨i, h1, Wk.frame i s.heap s'.heap h2 kp, fun k v y e q => (h3 k v y e q).mono x.le⟩, fun b hb => ?_, fun b hb => ?_⟩
    · obtain ⟨q1, o, q3⟩ := j.fpOk b hb
      exact ⟨x.unmut q3 q1, o, kp b hb o q3⟩
    · obtain ⟨q1, o, q3⟩ := j.fpOk b (Wk.sub b hb)
      exact x.oth b o q3 (j.wrOk b hb)
  wrOk := fun xs W st h j b hb => ⟨j.wrOk b hb, (j.fpOk b (Wk.sub b hb)).2⟩
  next := fun xs xs' x W st s tgt hg j Iv e Q E hQ => by
    obtain ⟨i, h1, h2, h3⟩ := j.at_
    cases xs with
    | nil => cases e
    | cons y r =>
      cases e
      have hi : i < N := by rw [List.length_cons] at h1; omega
      refine Wk.item i s _ E hi h2 fun v h' tk hP hS hk => ?_
      refine hgo (i + 1) { s with heap := h', toks := tk } v tgt _ E hg hS ?_
      refine hQ W v h' tk (.inl rfl) (h3 0 v x rfl (by simpa using hP)) ⟨⟨i + 1, by rw [List.length_cons] at h1; omega, hS, fun k w z q1 q2 => h3 (k + 1) w z (by simpa using q1) (by rw [show i + (k + 1) = i + 1 + k from by omega]; exact q2)⟩, fun b hb => ?_, j.wrOk⟩ hk
      exact ⟨(j.fpOk b hb).1, hal _ _ hS b hb⟩
  stop := fun xs W st s j Iv e Q E hQ => by
    obtain ⟨i, h1, h2, h3⟩ := j.at_
    cases xs with
    | cons y r => cases e
    | nil =>
      have hi : i = N := by simpa using h1
      subst hi
      exact Wk.done s _ E h2 fun h' tk hk => hQ h' tk hk
  self := fun xs W st s j Q E hQ => by
    obtain ⟨i, h1, h2, h3⟩ := j.at_
    exact Wk.self i s Q E h2 hQ
theorem go_listiter {A : Around} {s : Shared} {I l : Addr} {i : Nat} {v : Value} {tgt : Expr} {Q : Unit → Shared → Prop} {E : Value → Shared → Prop} (hg : goesT tgt = true) (hit : s.heap.IsListIter I l i) (hQ : Q () s) : wpAny (model c.prog c.w) A (letOwnedTupleGo tgt (.ref I) v) Q E s := by
  cases tgt with
  | Name => exact wpAny_pure hQ
  | Tuple elts k pos =>
    cases v with
    | ref T => exact wpAny_letOwnedTupleGo_listiter hit hQ
    | _ => exact wpAny_pure hQ
  | _ => cases hg
noncomputable def lstIt : AV → Cm (List AV) := fun x => match x with
  | .lst xs => pu xs
  | _ => no
theorem Inv.fresh_own {p : Pl} {W : Wd} {st : AS} {s : Shared} (I : Inv c p W st s) {a : Addr} (h : s.heap.get? a = .none) : ¬ p.Own a := fun q => by
  rcases q with rfl | q
  · obtain ⟨ml, ⟨o1, es, ep, ho, _⟩, _⟩ := I.fr.ns
    rw [h] at ho; cases ho
  · obtain ⟨y, q⟩ := I.fr.wcIn a q
    obtain ⟨v', o1, ho, _⟩ := I.fr.cells y a q
    rw [h] at ho; cases ho
theorem Inv.frz_own {p : Pl} {W : Wd} {st : AS} {s : Shared} (I : Inv c p W st s) {a : Addr} {o : Obj} (h : W.role a = .frz o) : ¬ p.Own a ∧ ¬ W.Mut a := ⟨(fun q => by rw [I.fr.ownOth q] at h; cases h), (by unfold Wd.Mut; rw [h]; exact fun q => q)⟩
theorem ImplI.list {e : Expr} {f : Cm AV} (h : ImplE c n sx e f) : ImplI c n sx e goesT (bd f lstIt) nxL := by
  intro p hsx hr W st s I xs st' e Q E hQ
  obtain ⟨x, st1, e1, e2⟩ := bd_some e
  refine h p hsx hr W W st s (Le.refl _) I x st1 e1 _ E fun W1 v s1 x1 I1 r1 => ?_
  cases r1 with
  | @lst a vs m _ hrole hvs =>
    cases e2
    have L := I1.hr.isList hrole
    have hn : s1.heap.get? s1.heap.objs.size = .none := get_none_of_ge (Nat.le_refl _)
    have ha := I1.hr.frz _ _ hrole
    have hne : a ≠ s1.heap.objs.size := Nat.ne_of_lt (Heap.lt_size ha)
    refine wpAny_pyIter_list L ?_
    have k2 : ∀ b o, s1.heap.get? b = some o → (s1.heap.push { cls := .type "list_iterator", data := .fields #[.ref a, .int 0 0] }).get? b = some o := fun _ _ e => Heap.get?_push_of_some _ e
    have x2 : Ext p.Own W1 s1 W1 { s1 with heap := s1.heap.push { cls := .type "list_iterator", data := .fields #[.ref a, .int 0 0] } } := Ext.keeps _ _ k2 rfl rfl
    have Wk := Walks.list (prog := c.prog) (w := c.w) (A := p.A) hr.1 s1.heap.objs.size a hne vs.toArray
    refine hQ W1 _ s1.heap.objs.size [s1.heap.objs.size, a] [s1.heap.objs.size] _ (x1.trans x2) (I1.keeps k2) (itr_walks Wk (fun i hh q b hb => ?_) (fun i s v tgt Q E hg q hq => go_listiter hg q.1 hq)) ⟨⟨0, ?_, ⟨⟨_, Heap.get?_push_size _ rfl, rfl, rfl⟩, L.push _⟩, fun k v y q1 q2 => ?_⟩, fun b hb => ?_, fun b hb => ?_⟩ (fun b hb => ?_) (fun b hb => ?_)
    · rcases List.mem_cons.mp hb with rfl | hb
      · obtain ⟨o, ho, _⟩ := q.1; exact ⟨o, ho⟩
      · rw [List.mem_singleton.mp hb]; obtain ⟨o, ho, _⟩ := q.2; exact ⟨o, ho⟩
    · rw [List.size_toArray, hvs.length, Nat.zero_add]
    · rw [Nat.zero_add, List.getElem?_toArray] at q2
      obtain ⟨x', e', r'⟩ := hvs.getv q2
      rw [q1] at e'; cases e'; exact r'
    · rcases List.mem_cons.mp hb with rfl | hb
      · exact ⟨by unfold Wd.Mut; rw [I1.hr.oth_of_none hn]; exact fun q => q, _, Heap.get?_push_size _ rfl⟩
      · rw [List.mem_singleton.mp hb]; exact ⟨(I1.frz_own hrole).2, _, k2 _ _ ha⟩
    · rw [List.mem_singleton.mp hb]; exact I1.hr.oth_of_none hn
    · rw [List.mem_singleton.mp hb]
      cases z : s.heap.get? s1.heap.objs.size with
      | none => rfl
      | some o => obtain ⟨o1, z1⟩ := x1.alive _ o z; rw [hn] at z1; cases z1
    · rcases List.mem_cons.mp hb with q | hb
      · rw [q]; exact I1.fresh_own hn
      · rw [List.mem_singleton.mp hb]; exact (I1.frz_own hrole).1
  | _ => cases e2
noncomputable def rangeL (a : Int) (N : Nat) : List AV := (List.range N).map fun k => AV.int (a + (k : Nat))
theorem rangeL_len (a : Int) (N : Nat) : (rangeL a N).length = N := by simp [rangeL]
theorem go_range {A : Around} {s : Shared} {I : Addr} {x l t : Int} {v : Value} {tgt : Expr} {Q : Unit → Shared → Prop} {E : Value → Shared → Prop} (hg : goesT tgt = true) (hit : IsRangeIter s.heap I x l t) (hQ : Q () s) : wpAny (model c.prog c.w) A (letOwnedTupleGo tgt (.ref I) v) Q E s := by
  cases tgt with
  | Name => exact wpAny_pure hQ
  | Tuple elts k pos =>
    cases v with
    | ref T =>
      unfold letOwnedTupleGo
      refine wpAny_bind (wpAny_load hit ?_)
      show wpAny _ A (if (["enumerate", "zip", "dict_itemiterator", "dict_reverseitemiterator", "odict_iterator", "itertools.zip_longest", "itertools.pairwise"].contains "range_iterator" && _) = true then _ else _) Q E s
      rw [if_neg (by rw [show (["enumerate", "zip", "dict_itemiterator", "dict_reverseitemiterator", "odict_iterator", "itertools.zip_longest", "itertools.pairwise"].contains "range_iterator") = false from by decide, Bool.false_and]; exact Bool.false_ne_true)]
      exact wpAny_pure hQ
    | _ => exact wpAny_pure hQ
  | _ => cases hg
theorem range_itr {p : Pl} (hr : Room n p.A) {W W1 : Wd} {st : AS} {s s1 : Shared} {a b : Int} {t u v : Tok} {tk : Nat} (x1 : Ext p.Own W s W1 s1) (I1 : Inv c p W1 st s1) (ha : -1000000 ≤ a) (ha' : a ≤ 1000000) (hb : -1000000 ≤ b) (hb' : b ≤ 1000000) {Q : Value → Shared → Prop} {E : Value → Shared → Prop}
    (hQ : ∀ W' s' I fp wr J, Ext p.Own W s W' s' → Inv c p W' st s' → Itr c p.A I fp wr goesT nxL J → J (rangeL a (b - a).toNat) W' st s'.heap → (∀ b ∈ wr, s.heap.get? b = .none) → (∀ b ∈ fp, ¬ p.Own b) → Q (.ref I) s') :
    wpAny (model c.prog c.w) p.A (pyIter (.ref s1.heap.objs.size)) Q E { s1 with heap := s1.heap.push { cls := .type "range", data := .fields #[.int a t, .int b u, .int 1 v] }, toks := tk } := by
  refine wpAny_pyIter_range (IsRange.new ..) (small_one (by omega) (by omega) (by omega) (by omega)) ?_
  have hn : s1.heap.get? (s1.heap.objs.size + 1) = .none := get_none_of_ge (Nat.le_succ _)
  have hsz : (s1.heap.push { cls := .type "range", data := .fields #[.int a t, .int b u, .int 1 v] }).objs.size = s1.heap.objs.size + 1 := Heap.size_push ..
  have k2 : ∀ d o, s1.heap.get? d = some o → ((s1.heap.push { cls := .type "range", data := .fields #[.int a t, .int b u, .int 1 v] }).push { cls := .type "range_iterator", data := .fields #[rawInt a, rawInt (Builtin.Range.rangeSize a b 1), rawInt 1] }).get? d = some o := fun _ _ e => Heap.get?_push_of_some _ (Heap.get?_push_of_some _ e)
  have hrs : Builtin.Range.rangeSize a b 1 = ((b - a).toNat : Int) := by rw [rangeSize_one]; split <;> omega
  have Wk := Walks.range (prog := c.prog) (w := c.w) (A := p.A) hr.1 (s1.heap.objs.size + 1) a 1 (b - a).toNat
  have hit : ((s1.heap.push { cls := .type "range", data := .fields #[.int a t, .int b u, .int 1 v] }).push { cls := .type "range_iterator", data := .fields #[rawInt a, rawInt (Builtin.Range.rangeSize a b 1), rawInt 1] }).get? (s1.heap.objs.size + 1) = some { cls := .type "range_iterator", data := .fields #[rawInt a, rawInt (Builtin.Range.rangeSize a b 1), rawInt 1] } := by
    have := Heap.get?_push_size (s1.heap.push { cls := .type "range", data := .fields #[.int a t, .int b u, .int 1 v] }) (o := { cls := .type "range_iterator", data := .fields #[rawInt a, rawInt (Builtin.Range.rangeSize a b 1), rawInt 1] }) rfl
    rwa [hsz] at this
  dsimp only
  rw [hsz]
  have x2 : Ext p.Own W1 s1 W1 { s1 with heap := (s1.heap.push { cls := .type "range", data := .fields #[.int a t, .int b u, .int 1 v] }).push { cls := .type "range_iterator", data := .fields #[rawInt a, rawInt (Builtin.Range.rangeSize a b 1), rawInt 1] }, toks := tk } := Ext.keeps _ _ k2 rfl rfl
  refine hQ W1 _ (s1.heap.objs.size + 1) [s1.heap.objs.size + 1] [s1.heap.objs.size + 1] _ (x1.trans x2) (I1.keeps k2) (itr_walks Wk (fun i hh q d hd => ?_) (fun i s v tgt Q E hg q hq => go_range hg q hq)) ⟨⟨0, by rw [rangeL_len, Nat.zero_add], ?_, fun k w y q1 q2 => ?_⟩, fun d hd => ?_, fun d hd => ?_⟩ (fun d hd => ?_) (fun d hd => by rw [List.mem_singleton.mp hd]; exact I1.fresh_own hn)
  · rw [List.mem_singleton.mp hd]; exact ⟨_, q⟩
  · show IsRangeIter _ _ (a + ((0 : Nat) : Int) * 1) (((b - a).toNat : Int) - ((0 : Nat) : Int)) 1
    rw [show (a + ((0 : Nat) : Int) * 1) = a from by simp, show (((b - a).toNat : Int) - ((0 : Nat) : Int)) = Builtin.Range.rangeSize a b 1 from by rw [hrs]; simp]
    exact hit
  · obtain ⟨t', rfl⟩ := q2
    unfold rangeL at q1
    rw [List.getElem?_map] at q1
    obtain ⟨m, hm, rfl⟩ := Option.map_eq_some_iff.mp q1
    have : m = k := by
      rw [List.getElem?_range] at hm
      · cases hm; rfl
      · rcases Nat.lt_or_ge k (b - a).toNat with z | z
        · exact z
        · rw [List.getElem?_eq_none (by simpa using z)] at hm; cases hm
    subst this
    have e0 : a + ((0 + m : Nat) : Int) * 1 = a + (m : Int) := by simp
    rw [e0]
    exact .int _ _
  · rw [List.mem_singleton.mp hd]
    exact ⟨by unfold Wd.Mut; rw [I1.hr.oth_of_none hn]; exact fun q => q, _, hit⟩
  · rw [List.mem_singleton.mp hd]; exact I1.hr.oth_of_none hn
  · rw [List.mem_singleton.mp hd]
    cases z : s.heap.get? (s1.heap.objs.size + 1) with
    | none => rfl
    | some o => obtain ⟨o1, z1⟩ := x1.alive _ o z; rw [hn] at z1; cases z1
noncomputable def rangeM : List AV → Cm (List AV) := fun xs => match xs with
  | [.int b] => if -1000000 ≤ b ∧ b ≤ 1000000 then pu (rangeL 0 b.toNat) else no
  | [.int a, .int b] => if -1000000 ≤ a ∧ a ≤ 1000000 ∧ -1000000 ≤ b ∧ b ≤ 1000000 then pu (rangeL a (b - a).toNat) else no
  | _ => no
theorem ImplI.range (G : Gd c) {x : Str} {p0 pos : Pos} {es : List Expr} {fs : Cm (List AV)} (hx : sx.sc.names.lookup x = some .globalImplicit) (hg : c.Glob x (.type "range")) (h : ImplEs c n sx es fs) (hd : (x == ("__debug__" : Str)) = false := by decide) (hp : es.all plainX = true := by rfl) :
    ImplI c n sx (.Call (.Name x p0) es [] pos) goesT (bd fs rangeM) nxL := by
  intro p hsx hr W st s I xs st' e Q E hQ
  obtain ⟨ys, st1, e1, e2⟩ := bd_some e
  refine Call_ (load_glob G I (by rw [hsx]; exact hx) hg hd ?_)
  refine PyProof.Rows.callWith_type (any_false hp) (evalArgs_row hp ?_)
  refine h p hsx hr W pos W st s (Le.refl _) I ys st1 e1 _ E fun W1 vs s1 x1 I1 r1 => ?_
  unfold rangeM at e2
  split at e2
  · rename_i b
    split at e2
    · rename_i hb
      cases e2
      cases r1 with
      | cons ha hr' =>
        cases hr'
        cases ha
        refine call_range_1 (range_itr (a := 0) hr x1 I1 (by decide) (by decide) hb.1 hb.2 fun W' s' I fp wr J q1 q2 q3 q4 q5 q6 => hQ W' s' I fp wr J q1 q2 q3 ?_ q5 q6)
        rwa [show (b - 0).toNat = b.toNat from by rw [Int.sub_zero]] at q4
    · cases e2
  · rename_i a b
    split at e2
    · rename_i hb
      cases e2
      cases r1 with
      | cons ha hr' =>
        cases hr' with
        | cons hb' hr'' =>
          cases hr''
          cases ha
          cases hb'
          exact call_range_2 (range_itr hr x1 I1 hb.1 hb.2.1 hb.2.2.1 hb.2.2.2 fun W' s' I fp wr J q1 q2 q3 q4 q5 q6 => hQ W' s' I fp wr J q1 q2 q3 q4 q5 q6)
    · cases e2
  · cases e2
end
end Mine

namespace Mine

section
variable {c : Cx} {n : Nat} {sx : Sx}

end
end Mine

namespace Mine

section
variable {c : Cx} {n : Nat} {sx : Sx}

theorem ints_are {W : Wd} : ∀ {vs : List Value} {ns : List Int}, IntsAre vs ns → VRs W vs (ns.map .int)
  | _, _, h => by
    induction h with
    | nil => exact .nil
    | cons => exact .cons (.int _ _) (by assumption)
end
end Mine

namespace Mine

section
variable {c : Cx} {n : Nat} {sx : Sx}

noncomputable def relS (scope sc : Scope) : Scope := relabel scope (envS sc)
theorem rel_static {scope : Scope} {env : Env} {sc : Scope} (h : env.scope = sc) : relabel scope env = relS scope sc := by
  obtain ⟨scope', locals, globals, cells, qual, func, code, frame, builtins⟩ := env
  dsimp only at h; subst h; rfl
noncomputable def sxC (sx : Sx) (scope : Scope) (tv cp : List Str) : Sx := ⟨relS scope sx.sc, tv ++ cp, tv⟩
noncomputable def closeL (f : Str → Option Addr) : List (Str × NameKind) → List (Str × Addr) → List (Str × Addr)
  | [], acc => acc
  | (y, k) :: r, acc => if k == .free then (match f y with | some a => closeL f r ((y, a) :: acc) | .none => closeL f r acc) else closeL f r acc
theorem closure_go {env : Env} : ∀ (names : List (Str × NameKind)) (acc : List (Str × Addr)), (∀ y, (y, NameKind.free) ∈ names → ∃ a, env.cells.lookup y = some a) →
    (forIn names acc fun (x : Str × NameKind) (cs : List (Str × Addr)) => (if x.2 == .free then do let a ← cellOf env x.1; pure (ForInStep.yield ((x.1, a) :: cs)) else pure (ForInStep.yield cs) : Sem (ForInStep (List (Str × Addr))))) = pure (closeL (fun y => env.cells.lookup y) names acc)
  | [], acc, _ => rfl
  | (y, k) :: r, acc, h => by
    rw [List.forIn_cons]
    by_cases hk : (k == NameKind.free) = true
    · have hk' : k = .free := beq_iff_eq.mp hk
      subst hk'
      obtain ⟨a, ha⟩ := h y List.mem_cons_self
      have e1 : cellOf env y = pure a := by unfold cellOf; rw [ha]
      have ih := closure_go (env := env) r ((y, a) :: acc) fun z hz => h z (List.mem_cons_of_mem _ hz)
      simp only [closeL, beq_self_eq_true, if_true, ha]
      rw [e1]
      exact ih
    · have ih := closure_go (env := env) r acc fun z hz => h z (List.mem_cons_of_mem _ hz)
      simp only [closeL, hk, if_false, Bool.false_eq_true]
      exact ih
theorem closure_is {env : Env} {scope : Scope} (h : ∀ y, (y, NameKind.free) ∈ scope.names → ∃ a, env.cells.lookup y = some a) : closureFor scope env = pure (closeL (fun y => env.cells.lookup y) scope.names []) := by
  have := closure_go (env := env) scope.names [] h
  unfold closureFor
  show (forIn scope.names [] _ >>= fun cs => pure cs) = _
  have e2 : ∀ t : Sem (List (Str × Addr)), t = pure (closeL (fun y => env.cells.lookup y) scope.names []) → (t >>= fun cs => pure cs) = pure (closeL (fun y => env.cells.lookup y) scope.names []) := fun t ht => by rw [ht]; rfl
  exact e2 _ this
theorem closeL_mem {f : Str → Option Addr} : ∀ {names : List (Str × NameKind)} {acc : List (Str × Addr)} {y : Str} {a : Addr}, (y, a) ∈ closeL f names acc → (y, a) ∈ acc ∨ f y = some a
  | [], acc, y, a, h => .inl h
  | (z, k) :: r, acc, y, a, h => by
    unfold closeL at h
    split at h
    · split at h
      · rename_i b hb
        rcases closeL_mem h with q | q
        · rcases List.mem_cons.mp q with q | q
          · cases q; exact .inr hb
          · exact .inl q
        · exact .inr q
      · exact closeL_mem h
    · exact closeL_mem h
theorem closeL_has {f : Str → Option Addr} : ∀ {names : List (Str × NameKind)} {acc : List (Str × Addr)} {y : Str}, ((∃ a, (y, a) ∈ acc) ∨ ((y, NameKind.free) ∈ names ∧ ∃ a, f y = some a)) → ∃ a, (y, a) ∈ closeL f names acc
  | [], acc, y, h => by
    rcases h with h | ⟨h, _⟩
    · exact h
    · cases h
  | (z, k) :: r, acc, y, h => by
    unfold closeL
    split
    · rename_i hk
      have hk' : k = .free := beq_iff_eq.mp hk
      split
      · rename_i b hb
        refine closeL_has ?_
        rcases h with ⟨a, h⟩ | ⟨h, a, ha⟩
        · exact .inl ⟨a, List.mem_cons_of_mem _ h⟩
        · rcases List.mem_cons.mp h with q | q
          · cases q; exact .inl ⟨b, List.mem_cons_self⟩
          · exact .inr ⟨q, a, ha⟩
      · rename_i hb
        refine closeL_has ?_
        rcases h with h | ⟨h, a, ha⟩
        · exact .inl h
        · rcases List.mem_cons.mp h with q | q
          · cases q; rw [hb] at ha; cases ha
          · exact .inr ⟨q, a, ha⟩
    · rename_i hk
      refine closeL_has ?_
      rcases h with h | ⟨h, a, ha⟩
      · exact .inl h
      · rcases List.mem_cons.mp h with q | q
        · cases q; exact absurd rfl hk
        · exact .inr ⟨q, a, ha⟩
theorem closeL_apart {f : Str → Option Addr} (hf : ∀ y z a, f y = some a → f z = some a → y = z) : ∀ {names : List (Str × NameKind)} {acc : List (Str × Addr)}, acc.Pairwise (fun x y => x.2 ≠ y.2) → (∀ x ∈ acc, f x.1 = some x.2) → (names.map (·.1)).Nodup → (∀ x ∈ acc, x.1 ∉ names.map (·.1)) → (closeL f names acc).Pairwise (fun x y => x.2 ≠ y.2)
  | [], acc, h, _, _, _ => h
  | (z, k) :: r, acc, h, h1, h2, h3 => by
    obtain ⟨n1, n2⟩ := List.nodup_cons.mp h2
    unfold closeL
    split
    · split
      · rename_i b hb
        refine closeL_apart hf (List.pairwise_cons.mpr ⟨fun x hx q => ?_, h⟩) (fun x hx => ?_) n2 (fun x hx => ?_)
        · have := hf z x.1 b hb (by rw [h1 x hx]; exact congrArg some q.symm)
          exact h3 x hx (by rw [← this]; exact List.mem_cons_self)
        · rcases List.mem_cons.mp hx with q | q
          · rw [q]; exact hb
          · exact h1 x q
        · rcases List.mem_cons.mp hx with q | q
          · rw [q]; exact n1
          · exact fun w => h3 x q (List.mem_cons_of_mem _ w)
      · exact closeL_apart hf h h1 n2 fun x hx w => h3 x hx (List.mem_cons_of_mem _ w)
    · exact closeL_apart hf h h1 n2 fun x hx w => h3 x hx (List.mem_cons_of_mem _ w)
theorem lookup_of_mem {l : List (Str × Addr)} {y : Str} {a : Addr} (h : (y, a) ∈ l) : ∃ b, l.lookup y = some b := by
  induction l with
  | nil => cases h
  | cons x r ih =>
    obtain ⟨z, b⟩ := x
    rw [List.lookup_cons]
    cases q : (y == z) with
    | true => exact ⟨b, rfl⟩
    | false =>
      rcases List.mem_cons.mp h with e | e
      · cases e; simp at q
      · exact ih e
noncomputable def ImplC (c : Cx) (n : Nat) (sx : Sx) (ifs : List Expr) (f : Cm Bool) : Prop := ∀ p : Pl, p.sx = sx → Room n p.A → ∀ W0,
  Ok c p W0 (forIn ifs true fun c r => if r = true then do let ok ← isTrue c p.env (eval c p.env); pure (ForInStep.yield ok) else pure (ForInStep.yield r)) (fun _ a b => a = b) f
theorem ImplC.nil : ImplC c n sx [] (pu true) := by
  intro p _ _ W0 W st s hle I b st' e Q E hQ
  cases e
  exact wpAny_tests_nil (hQ W _ s (Ext.refl ..) I rfl)
theorem ImplC.one {e : Expr} {f : Cm Bool} (h : ImplT c n sx e f) : ImplC c n sx [e] f := by
  intro p hsx hr W0 W st s hle I b st' e Q E hQ
  exact wpAny_tests_one (h p hsx hr W0 W st s hle I b st' e Q E hQ)
end
end Mine

namespace Mine

section
variable {c : Cx} {n : Nat} {sx : Sx}

noncomputable def capsL (caps : List Nat) (loc : List AV) : List AV := caps.map fun i => (loc[i]?).getD .unb
theorem comp_out {p : Pl} {C : Addr} {W W' : Wd} {s s' : Shared} {st : AS} (hC0 : s.heap.get? C = .none) (hCr : W'.role C = .oth) (hCb : c.h0.get? C = .none) (hcC : ∀ y a, p.env.cells.lookup y = some a → a ≠ C) (hLC : p.env.locals ≠ C)
    (x : Ext (fun a => p.Own a ∨ a = C) W s W' s') (I : Inv c p W' st s') {h' : Heap} (hs : Heap.SameBut C s'.heap h') : Ext p.Own W s W' { s' with heap := h' } ∧ Inv c p W' st { s' with heap := h' } := by
  refine ⟨⟨x.le, fun a o q => ?_, x.oth, fun a o hm hn q => ?_, x.gens, x.os⟩, ⟨I.hr.grow fun b o hb q => hs.extBut b o (fun z => ?_) q, I.fr.grow fun b o hb q => hs.extBut b o (fun z => ?_) q⟩⟩
  · obtain ⟨o1, z⟩ := x.alive a o q
    exact ⟨o1, hs.extBut a o1 (fun w => by rw [w, hC0] at q; cases q) z⟩
  · have hne : a ≠ C := fun w => by rw [w, hC0] at q; cases q
    exact hs.extBut a o hne (x.kept a o hm (fun w => w.elim hn hne) q)
  · subst z
    rcases hb with ⟨o', hb⟩ | hb
    · rw [hCb] at hb; cases hb
    · exact hb hCr
  · rcases hb with hb | ⟨y, hb⟩
    · exact hLC (hb ▸ z)
    · exact hcC y b hb z
end
end Mine

namespace Mine

section
variable {c : Cx} {n : Nat} {sx : Sx}

theorem items_hr {W : Wd} {st st' : AS} {h : Heap} (H : HR c W st h) {v : Value} {x : AV} {xs : List AV} (hv : VR W v x) (e : itemsM x st = some (xs, st')) :
    ∃ a vs m, v = .ref a ∧ h.get? a = some (listOf vs.toArray m) ∧ VRs W vs xs := by
  cases hv with
  | lst h r => simp only [itemsM] at e; cases e; exact ⟨_, _, _, rfl, H.frz _ _ h, r⟩
  | lob k hk =>
    simp only [itemsM] at e
    split at e
    · rename_i ys hy
      cases e
      obtain ⟨_, _, vs, m, h3, h4⟩ := H.lobAt hy
      exact ⟨_, vs, m, rfl, h3, h4⟩
    · cases e
  | _ => simp only [itemsM] at e; cases e
noncomputable def nxA : AV × Nat → AS → Option (Option (AV × (AV × Nat))) := fun i st => match itemsM i.1 st with
  | some (xs, _) => (match xs[i.2]? with | some y => some (some (y, (i.1, i.2 + 1))) | .none => some .none)
  | .none => .none
noncomputable def sizeA : AV × Nat → AS → Nat := fun i st => match itemsM i.1 st with
  | some (xs, _) => xs.length + 1
  | .none => 0
structure JA (it : Addr) (i : AV × Nat) (W : Wd) (st : AS) (h : Heap) : Prop where
  at_ : ∃ l, VR W (.ref l) i.1 ∧ h.IsListIter it l i.2
  io : W.role it = .oth
theorem any_itr {A : Around} (hr : Room n A) {it : Addr} : Itr c A it [it] [it] goesT nxA (JA it) where
  alive := fun i W st h j b hb => by
    obtain ⟨l, _, o, h7, _⟩ := j.at_
    rw [List.mem_singleton.mp hb]; exact ⟨_, h7⟩
  frame := fun own i W W' st st' s s' hno j H x H' => by
    obtain ⟨l, h1, o, h7, h8⟩ := j.at_
    have mi : ¬ W.Mut it := by unfold Wd.Mut; rw [j.io]; exact fun q => q
    exact ⟨⟨l, h1.mono x.le, o, x.kept _ _ mi (hno _ List.mem_cons_self) h7, h8⟩, x.oth _ _ h7 j.io⟩
  wrOk := fun i W st h j b hb => by
    obtain ⟨l, _, o, h7, _⟩ := j.at_
    rw [List.mem_singleton.mp hb]; exact ⟨j.io, _, h7⟩
  next := fun i i' x W st s tgt hg j H e Q E hQ => by
    obtain ⟨l, h1, hit⟩ := j.at_
    simp only [nxA] at e
    split at e
    · rename_i xs q he
      split at e
      · rename_i y hy
        cases e
        obtain ⟨a, vs, m, ha, hg', hvs⟩ := items_hr H h1 he
        cases ha
        have L : s.heap.IsList l vs.toArray := ⟨_, hg', rfl, _, rfl⟩
        obtain ⟨v, hv, rv⟩ := hvs.get hy
        refine wpAny_pyNext_list_item hit L (by rw [List.getElem?_toArray]; exact hv) fun h' hit' hs' => ?_
        refine go_listiter hg hit' ?_
        refine hQ W v h' s.toks (.inl rfl) rv ⟨⟨l, h1, hit'⟩, j.io⟩ fun b o hb e => hs'.extBut b o (fun z => hb (by rw [z]; exact List.mem_cons_self)) e
      · cases e
    · cases e
  stop := fun i W st s j H e Q E hQ => by
    obtain ⟨l, h1, hit⟩ := j.at_
    simp only [nxA] at e
    split at e
    · rename_i xs q he
      split at e
      · cases e
      · rename_i hy
        obtain ⟨a, vs, m, ha, hg', hvs⟩ := items_hr H h1 he
        cases ha
        have L : s.heap.IsList l vs.toArray := ⟨_, hg', rfl, _, rfl⟩
        refine wpAny_pyNext_list_end hr.1 hit L (by rw [List.getElem?_toArray]; rw [List.getElem?_eq_none_iff] at hy ⊢; rw [hvs.length]; exact hy) fun h' hk => ?_
        exact hQ h' s.toks fun b o hb e => hk b o (fun z => hb (by rw [z]; exact List.mem_cons_self)) e
    · cases e
  self := fun i W st s j Q E hQ => by
    obtain ⟨l, h1, hit⟩ := j.at_
    exact wpAny_pyIter_listiter hit hQ
noncomputable def anyIt : AV → Cm (AV × Nat) := fun x st => match itemsM x st with
  | some _ => some ((x, 0), st)
  | .none => .none
theorem ImplI.any {e : Expr} {f : Cm AV} (h : ImplE c n sx e f) : ImplI c n sx e goesT (bd f anyIt) nxA := by
  intro p hsx hr W st s I i st' e Q E hQ
  obtain ⟨x, st1, e1, e2⟩ := bd_some e
  refine h p hsx hr W W st s (Le.refl _) I x st1 e1 _ E fun W1 v s1 x1 I1 r1 => ?_
  unfold anyIt at e2
  split at e2
  · rename_i q he
    cases e2
    obtain ⟨xs, q⟩ := q
    obtain ⟨a, vs, m, ha, hg, hvs⟩ := items_hr I1.hr r1 he
    subst ha
    have L : s1.heap.IsList a vs.toArray := ⟨_, hg, rfl, _, rfl⟩
    have hn : s1.heap.get? s1.heap.objs.size = .none := get_none_of_ge (Nat.le_refl _)
    refine wpAny_pyIter_list L ?_
    have k2 : ∀ b o, s1.heap.get? b = some o → (s1.heap.push { cls := .type "list_iterator", data := .fields #[.ref a, .int 0 0] }).get? b = some o := fun _ _ e => Heap.get?_push_of_some _ e
    have x2 : Ext p.Own W1 s1 W1 { s1 with heap := s1.heap.push { cls := .type "list_iterator", data := .fields #[.ref a, .int 0 0] } } := Ext.keeps _ _ k2 rfl rfl
    refine hQ W1 _ s1.heap.objs.size [s1.heap.objs.size] [s1.heap.objs.size] _ (x1.trans x2) (I1.keeps k2) (any_itr hr) ⟨⟨a, r1, ⟨_, Heap.get?_push_size _ rfl, rfl, rfl⟩⟩, I1.hr.oth_of_none hn⟩ (fun b hb => ?_) (fun b hb => by rw [List.mem_singleton.mp hb]; exact I1.fresh_own hn)
    rw [List.mem_singleton.mp hb]
    cases z : s.heap.get? s1.heap.objs.size with
    | none => rfl
    | some o => obtain ⟨o1, z1⟩ := x1.alive _ o z; rw [hn] at z1; cases z1
  · cases e2
end
end Mine

namespace Mine

section
variable {c : Cx} {n : Nat} {sx : Sx}

noncomputable def mulM : AV → AV → Cm AV := fun x y => match x with
  | .str a => (match y with | .int k => if 0 ≤ k ∧ k ≤ 1000 ∧ a.length ≤ 1000 then pu (.str (Txt.mul a k)) else no | _ => no)
  | .bytes b => (match y with | .int k => if b.toList ≠ [] ∧ b.size ≤ 16 ∧ 0 ≤ k ∧ k ≤ 1000 then pu (.bytes (List.replicate k.toNat b.toList).flatten.toArray) else no | _ => no)
  | x => mulLM x y
noncomputable def intsOf : List AV → Option (List Int)
  | [] => some []
  | .int i :: r => (match intsOf r with | some ns => some (i :: ns) | .none => .none)
  | _ :: _ => .none
theorem intsOf_are {W : Wd} : ∀ {vs : List Value} {xs : List AV} {ns : List Int}, VRs W vs xs → intsOf xs = some ns → IntsAre vs ns
  | _, _, _, .nil, h => by cases h; exact .nil
  | _, _, _, .cons a r, h => by
    cases a with
    | int i t =>
      simp only [intsOf] at h
      split at h
      · rename_i ns e; cases h; exact .cons _ _ (intsOf_are r e)
      · cases h
    | _ => cases h
end
end Mine

namespace Mine

section
variable {c : Cx} {n : Nat} {sx : Sx}

end
end Mine

namespace Mine

section
variable {c : Cx} {n : Nat} {sx : Sx}

noncomputable def frzE (f : Cm AV) : Cm AV := fun st => match f { st with lst := [] :: st.lst } with
  | some (v, st1) => (match st1.lst with
    | seg :: r => some (frzV seg v, { st1 with lst := r })
    | [] => .none)
  | .none => .none
theorem Inv.seg {p : Pl} {W : Wd} {st : AS} {s : Shared} (I : Inv c p W st s) : Inv c p W { st with lst := [] :: st.lst } s := by
  refine ⟨⟨I.hr.keep, I.hr.mutA, I.hr.lt, I.hr.frz, I.hr.ni, I.hr.nl, I.hr.iaR, I.hr.insA, fun g hg q hq => ?_, ?_⟩, I.fr⟩
  · rcases List.mem_cons.mp hg with z | hg
    · subst z; cases hq
    · exact I.hr.lstA g hg q hq
  · show ((([] : List (Nat × List AV)) ++ st.lst.flatten).map (·.1)).Nodup
    exact I.hr.nodup
theorem freeze_oth {W : Wd} {seg : List (Nat × List AV)} {h : Heap} {a : Addr} (z : W.role a = .oth) : (W.freeze seg h).role a = .oth := by
  rw [freeze_role (by intro k zz; rw [z] at zz; cases zz)]; exact z
theorem Inv.unseg {p : Pl} {W : Wd} {st : AS} {s : Shared} {seg : List (Nat × List AV)} {r : LH} (I : Inv c p W st s) (e : st.lst = seg :: r) : Inv c p (W.freeze seg s.heap) { st with lst := r } s :=
  ⟨I.hr.freezeSeg e, I.fr.mono (Le.freeze ..) (freeze_oth I.fr.roleL) fun x a q => freeze_oth (I.fr.roleC x a q).1⟩
theorem Ext.unseg {own : Addr → Prop} {W W' : Wd} {s s' : Shared} {seg : List (Nat × List AV)} (x : Ext own W s W' s') : Ext own W s (W'.freeze seg s'.heap) s' :=
  ⟨x.le.trans (Le.freeze ..), x.alive, fun a o q z => freeze_oth (x.oth a o q z), x.kept, x.gens, x.os⟩
theorem ImplE.frz {e : Expr} {f : Cm AV} (h : ImplE c n sx e f) : ImplE c n sx e (frzE f) := by
  intro p hsx hr W0 W st s hle I b st' e Q E hQ
  unfold frzE at e
  split at e
  · rename_i v st1 e1
    split at e
    · rename_i seg r hseg
      cases e
      refine h p hsx hr W W _ s (Le.refl _) I.seg v st1 e1 Q E fun W1 val s1 x1 I1 r1 => ?_
      exact hQ _ val s1 x1.unseg (I1.unseg hseg) (frzV_ok I1.hr hseg r1)
    · cases e
  · cases e
theorem frzV_unb {seg : List (Nat × List AV)} {v : AV} (h : frzV seg v ≠ .unb) : v ≠ .unb := fun q => h (by subst q; rfl)
theorem FrV.frzAt {p : Pl} {W : Wd} {st : AS} {h : Heap} {seg : List (Nat × List AV)} {r : LH} {i : Nat} {v : AV} (H : HR c W st h) (e : st.lst = seg :: r) (F : FrV c p (W.freeze seg h) st.loc h) (F0 : FrV c p W st.loc h) (hi : st.loc[i]? = some v) :
    FrV c p (W.freeze seg h) (st.loc.set i (frzV seg v)) h := by
  obtain ⟨ml, hns, hml⟩ := F.ns
  obtain ⟨ml0, hns0, hml0⟩ := F0.ns
  refine ⟨?_, fun j y u h1 h2 h3 h4 => ?_, F.cells, F.hasCell, F.kinds, F.apart, F.wcIn, F.roleL, F.roleC, F.lo, F.scope, F.kind, F.globals, F.builtins, F.nodup⟩
  · refine ⟨ml0, hns0, fun j y u h1 h2 h3 h4 => ?_⟩
    simp only [List.getElem?_set] at h2
    by_cases hij : i = j
    · subst hij
      rw [if_pos rfl] at h2
      split at h2
      · cases h2
        obtain ⟨val, e1, r1⟩ := hml0 i y v h1 hi (frzV_unb h3) h4
        exact ⟨val, e1, frzV_ok H e r1⟩
      · cases h2
    · rw [if_neg hij] at h2
      obtain ⟨val, e1, r1⟩ := hml0 j y u h1 h2 h3 h4
      exact ⟨val, e1, r1.mono (Le.freeze ..)⟩
  · simp only [List.getElem?_set] at h2
    by_cases hij : i = j
    · subst hij
      rw [if_pos rfl] at h2
      split at h2
      · cases h2
        obtain ⟨val, a, e1, q, r1⟩ := F0.cl i y v h1 hi (frzV_unb h3) h4
        exact ⟨val, a, e1, q, frzV_ok H e r1⟩
      · cases h2
    · rw [if_neg hij] at h2
      exact F.cl j y u h1 h2 h3 h4
noncomputable def frzS (i : Nat) (f : Cm AF) : Cm AF := fun st => match f { st with lst := [] :: st.lst } with
  | some (.next, st1) => (match st1.lst, st1.loc[i]? with
    | seg :: r, some v => some (.next, { st1 with lst := r, loc := st1.loc.set i (frzV seg v) })
    | _, _ => .none)
  | _ => .none
theorem ImplS1.frz {t : Stmt} {f : Cm AF} {i : Nat} (h : ImplS1 c n sx t f) : ImplS1 c n sx t (frzS i f) := by
  intro p hsx hr W0 W st s hle I b st' e Q E hQ
  unfold frzS at e
  split at e
  · rename_i st1 e1
    split at e
    · rename_i seg r v hseg hi
      cases e
      refine h p hsx hr W W _ s (Le.refl _) I.seg .next st1 e1 Q E fun W1 fl s1 x1 I1 r1 => ?_
      have I2 := I1.unseg hseg
      refine hQ _ fl s1 x1.unseg ⟨I2.hr.loc _, FrV.frzAt I1.hr hseg I2.fr I1.fr hi⟩ ?_
      cases r1; exact .next
    · cases e
  · cases e
end
end Mine

namespace Mine

section
variable {c : Cx} {n : Nat} {sx : Sx}

set_option maxHeartbeats 4000000 in
theorem VR.inv_lst {W : Wd} {v : Value} {xs : List AV} (h : VR W v (.lst xs)) : ∃ a vs m, v = .ref a ∧ W.role a = .frz (listOf vs.toArray m) ∧ VRs W vs xs := by
  cases h with
  | lst h1 h2 => exact ⟨_, _, _, rfl, h1, h2⟩
end
end Mine

namespace Mine

section
variable {c : Cx} {n : Nat} {sx : Sx}

theorem cells_apart : ∀ (names : List (Str × NameKind)) (k : Nat) (acc : List (Str × Addr)), (∀ p ∈ acc, @LT.lt Nat _ p.2 k) → acc.Pairwise (fun x y => x.2 ≠ y.2) → (cellsFrom k names acc).Pairwise fun x y => x.2 ≠ y.2
  | [], _, _, _, h => h
  | (y, kd) :: r, k, acc, h1, h2 => by
    unfold cellsFrom
    split
    · refine cells_apart r (k + 1) _ (fun p hp => ?_) (List.pairwise_cons.mpr ⟨fun p hp => ?_, h2⟩)
      · rcases List.mem_cons.mp hp with rfl | hp
        · exact Nat.lt_succ_self _
        · exact Nat.lt_succ_of_lt (h1 p hp)
      · exact Ne.symm (Nat.ne_of_lt (h1 p hp))
    · exact cells_apart r k acc h1 h2
theorem cells_look {cm : Str → Option Value} {y : Str} {b : Addr} : ∀ {cs : List (Str × Addr)} {cells : List (Addr × Obj)}, CellsAre cm cs cells → cs.lookup y = some b → ∃ o, (b, o) ∈ cells ∧ o.data = .cell (cm y)
  | _, _, .nil, h => by cases h
  | (z, d) :: cs, _, .cons (o := o) h1 r, h => by
    rw [List.lookup_cons] at h
    split at h
    · rename_i q
      cases h
      have : y = z := eq_of_beq q
      subst this
      exact ⟨o, List.mem_cons_self, h1⟩
    · obtain ⟨o', h2, h3⟩ := cells_look r h
      exact ⟨o', List.mem_cons_of_mem _ h2, h3⟩
theorem law_okC (G : Gd c) {nm : Str} {scope : Scope} {fa : Addr} {cd : Value} {body : List Stmt} {x : Str} {others : List Str} {f : Cm AF} (hS : ImplS c n ⟨scope, x :: others, x :: others⟩ body f)
    (hn : n ≤ 80) (hk : scope.kind = .function) (hkinds : ((x :: others).all fun y => scope.names.lookup y == some .local || scope.names.lookup y == some .cell) = true) (hnd : (x :: others).Nodup)
    {s : Shared} {m cm : Str → Option Value} {cells : List (Addr × Obj)} (F : Fr c.h0 c.h0.objs.size s.heap m) (N : News c.h0 c.h0.objs.size s.heap cells) (X : CellsAre cm (cellsFrom (c.h0.objs.size + 1) scope.names []) cells)
    {a : Addr} (hm : scope.names.lookup x = some .local → m x = some (.ref a)) (hcm : scope.names.lookup x = some .cell → cm x = some (.ref a)) {vs : List Value} {ns : List Int} (hL : c.h0.IsList a vs.toArray) (hI : IntsAre vs ns)
    (hf : ∃ st', f ⟨.lsb (ns.map .int) :: List.replicate others.length .unb, [], [[]], 0⟩ = some (.ret (.bool true), st')) {Q : Flow → Shared → Prop} {E : Value → Shared → Prop}
    (hQ : ∀ s', (∀ b o, c.h0.get? b = some o → s'.heap.get? b = some o) → s'.gens = s.gens → s'.os = s.os → Q (.ret (.bool true)) s') :
    wpAny (model c.prog c.w) (callerA.deeper (envOfC nm scope c.h0.objs.size fa cd)) (execs body (envOfC nm scope c.h0.objs.size fa cd)) Q E s := by
  obtain ⟨st', hf⟩ := hf
  obtain ⟨o, ho, hc, k, hd⟩ := hL
  have hLn : c.h0.get? c.h0.objs.size = .none := get_none_of_ge (Nat.le_refl _)
  have haL : c.h0.objs.size ≠ a := fun q => by rw [← q, hLn] at ho; cases ho
  let W : Wd := ⟨fun b => if b = a then .frz o else .oth, fun _ => 0, fun _ => 0, fun _ => 0, 0, 0⟩
  let p : Pl := ⟨callerA.deeper (envOfC nm scope c.h0.objs.size fa cd), ⟨scope, x :: others, x :: others⟩, envOfC nm scope c.h0.objs.size fa cd, (x :: others).filterMap fun y => (cellsFrom (c.h0.objs.size + 1) scope.names []).lookup y⟩
  have hW : ∀ b, W.role b = .oth ∨ (b = a ∧ W.role b = .frz o) := fun b => by
    by_cases q : b = a
    · exact .inr ⟨q, if_pos q⟩
    · exact .inl (if_neg q)
  have hnm : ∀ b, ¬ W.Mut b := fun b q => by
    unfold Wd.Mut at q
    rcases hW b with z | ⟨_, z⟩ <;> rw [z] at q <;> exact q
  have hkl : ∀ y, y ∈ x :: others → scope.names.lookup y = some .local ∨ scope.names.lookup y = some .cell := fun y hy => by
    have := List.all_eq_true.mp hkinds y hy
    simpa using this
  have hcell : ∀ y b, (cellsFrom (c.h0.objs.size + 1) scope.names []).lookup y = some b → s.heap.IsCell b (cm y) ∧ b ≠ c.h0.objs.size ∧ c.h0.get? b = .none := fun y b q => by
    obtain ⟨o', h1, h2⟩ := cells_look X q
    obtain ⟨h3, h4, h5⟩ := N _ h1
    exact ⟨⟨o', h3, h2⟩, h4, h5⟩
  have I : Inv c p W ⟨.lsb (ns.map .int) :: List.replicate others.length .unb, [], [[]], 0⟩ s := by
    have first : ∀ (i : Nat) (y : Str) (v : AV), (x :: others)[i]? = some y → (AV.lsb (ns.map .int) :: List.replicate others.length .unb)[i]? = some v → v ≠ .unb → y = x ∧ v = .lsb (ns.map .int) := fun i y v h1 h2 h3 => by
      cases i with
      | zero => exact ⟨(Option.some.inj h1).symm, (Option.some.inj h2).symm⟩
      | succ i =>
        have h2' : (List.replicate others.length AV.unb)[i]? = some v := h2
        rw [List.getElem?_replicate] at h2'
        split at h2'
        · exact absurd (Option.some.inj h2').symm h3
        · cases h2'
    refine ⟨⟨F.keep, fun b q => absurd q (hnm b), fun b => ?_, fun b o' e => ?_, rfl, rfl, fun k hk => absurd hk (Nat.not_lt_zero _), (fun k i e => by simp at e), fun g hg p hp => ?_, ?_⟩,
      ⟨⟨m, F.ns, fun i y v h1 h2 h3 h4 => ?_⟩, fun i y v h1 h2 h3 h4 => ?_, fun y b q => ⟨_, (hcell y b q).1⟩, fun y hy q => ?_, hkl, cells_apart _ _ _ (fun _ h => by cases h) List.Pairwise.nil, fun b hb => mem_filterMap_lookup hb, if_neg haL, fun y b q => ⟨?_, (hcell y b q).2⟩, hLn, rfl, hk, rfl, rfl, hnd⟩⟩
    · rcases hW b with z | ⟨z1, z2⟩
      · exact .inl z
      · exact .inr ⟨o, F.keep _ _ (z1 ▸ ho)⟩
    · rcases hW b with z | ⟨z1, z2⟩
      · rw [z] at e; cases e
      · rw [z2] at e; cases e; exact F.keep _ _ (z1 ▸ ho)
    · rw [List.mem_singleton.mp hg] at hp; cases hp
    · exact List.nodup_nil
    · obtain ⟨rfl, rfl⟩ := first i y v h1 h2 h3
      exact ⟨_, hm h4, .lsb (if_pos rfl) hc hd (ints_are hI)⟩
    · obtain ⟨rfl, rfl⟩ := first i y v h1 h2 h3
      obtain ⟨b, q⟩ := Option.isSome_iff_exists.mp (cellsFrom_some (x := y) scope.names (c.h0.objs.size + 1) [] (.inl h4))
      refine ⟨_, b, q, ?_, .lsb (if_pos rfl) hc hd (ints_are hI)⟩
      have := (hcell y b q).1
      rw [hcm h4] at this
      exact this
    · obtain ⟨b, z⟩ := Option.isSome_iff_exists.mp (cellsFrom_some (x := y) scope.names (c.h0.objs.size + 1) [] (.inl q))
      exact ⟨b, z, fun _ => List.mem_filterMap.mpr ⟨y, hy, z⟩⟩
    · have : b ≠ a := fun z => by
        have := (hcell y b q).2.2
        rw [z, ho] at this; cases this
      exact if_neg this
  have hr : Room n p.A := ⟨rfl, by show 1 + claimMargin + 1 + 2 * n ≤ 900; unfold claimMargin; omega, by show 4 + 3 + 100 * n + 100 ≤ 9000; omega⟩
  refine hS p rfl hr W W _ s (Le.refl _) I _ st' hf Q E fun W1 fl s1 x1 I1 r1 => ?_
  cases r1 with
  | ret rv =>
    cases rv
    exact hQ s1 I1.hr.keep x1.gens x1.os
end
end Mine

namespace Mine

section
variable {c : Cx} {n : Nat} {sx : Sx}

theorem from_app : ∀ (names : List (Str × NameKind)) (k : Nat) (acc : List (Str × Addr)), cellsFrom k names acc = cellsFrom k names [] ++ acc
  | [], _, _ => rfl
  | (y, kd) :: r, k, acc => by
    unfold cellsFrom
    split
    · rw [from_app r (k + 1) ((y, k) :: acc), from_app r (k + 1) [(y, k)], List.append_assoc]; rfl
    · exact from_app r k acc
theorem from_mem {y : Str} {a : Addr} : ∀ {names : List (Str × NameKind)} {k : Nat} {acc : List (Str × Addr)}, (y, a) ∈ cellsFrom k names acc → (y, a) ∈ acc ∨ (y, NameKind.cell) ∈ names
  | [], _, _, h => .inl h
  | (z, kd) :: r, k, acc, h => by
    unfold cellsFrom at h
    split at h
    · rename_i q
      rcases from_mem h with h | h
      · rcases List.mem_cons.mp h with h | h
        · cases h; exact .inr (by rw [← beq_iff_eq.mp q]; exact List.mem_cons_self)
        · exact .inl h
      · exact .inr (List.mem_cons_of_mem _ h)
    · rcases from_mem h with h | h
      · exact .inl h
      · exact .inr (List.mem_cons_of_mem _ h)
theorem look_app {a b : List (Str × Addr)} {y : Str} : (a ++ b).lookup y = match a.lookup y with | some v => some v | .none => b.lookup y := by
  induction a with
  | nil => rfl
  | cons x r ih =>
    obtain ⟨z, v⟩ := x
    rw [List.cons_append, List.lookup_cons, List.lookup_cons]
    cases h : y == z
    · exact ih
    · rfl
theorem kind_one {names : List (Str × NameKind)} (h : (names.map (·.1)).Nodup) {y : Str} {k k' : NameKind} (h1 : (y, k) ∈ names) (h2 : (y, k') ∈ names) : k = k' := by
  induction names with
  | nil => cases h1
  | cons x r ih =>
    obtain ⟨n1, n2⟩ := List.nodup_cons.mp h
    rcases List.mem_cons.mp h1 with e1 | h1
    · rcases List.mem_cons.mp h2 with e2 | h2
      · rw [← e1] at e2; cases e2; rfl
      · exact absurd (List.mem_map.mpr ⟨_, h2, by rw [← e1]⟩) n1
    · rcases List.mem_cons.mp h2 with e2 | h2
      · exact absurd (List.mem_map.mpr ⟨_, h1, by rw [← e2]⟩) n1
      · exact ih n2 h1 h2
structure Comp2Is (sx : Sx) (scope : Scope) (tv cp : List Str) (caps : List Nat) : Prop where
  kind : scope.kind = .function
  names : (scope.names.all fun x => x.2 != .local || scope.names.lookup x.1 == some .local) = true
  nod : (scope.names.map (·.1)).Nodup
  free : (scope.names.all fun y => y.2 != .free || cp.contains y.1) = true
  frees : (cp.all fun y => scope.names.any fun z => z.1 == y && z.2 == .free) = true
  tvk : (tv.all fun y => (relS scope sx.sc).names.lookup y == some .local || (relS scope sx.sc).names.lookup y == some .cell && scope.names.lookup y == some .cell) = true
  cpk : (cp.all fun y => (relS scope sx.sc).names.lookup y == some .cell) = true
  cpo : (cp.all fun y => sx.sc.names.lookup y == some .cell) = true
  vars : caps.map (fun i => sx.vars[i]?) = cp.map some
  nodup : (tv ++ cp).Nodup
noncomputable def comp2Chk (sx : Sx) (scope : Scope) (tv cp : List Str) (caps : List Nat) : Bool :=
  (scope.names.all fun x => x.2 != .local || scope.names.lookup x.1 == some .local) && decide (scope.names.map (·.1)).Nodup &&
  (scope.names.all fun y => y.2 != .free || cp.contains y.1) && (cp.all fun y => scope.names.any fun z => z.1 == y && z.2 == .free) && (tv.all fun y => (relS scope sx.sc).names.lookup y == some .local || (relS scope sx.sc).names.lookup y == some .cell && scope.names.lookup y == some .cell) &&
  (cp.all fun y => (relS scope sx.sc).names.lookup y == some .cell) && (cp.all fun y => sx.sc.names.lookup y == some .cell) && decide (caps.map (fun i => sx.vars[i]?) = cp.map some) && decide (tv ++ cp).Nodup
theorem Comp2Is.of {sx : Sx} {scope : Scope} {tv cp : List Str} {caps : List Nat} (hk : scope.kind = .function) (h : comp2Chk sx scope tv cp caps = true) : Comp2Is sx scope tv cp caps := by
  unfold comp2Chk at h
  simp only [Bool.and_eq_true] at h
  obtain ⟨⟨⟨⟨⟨⟨⟨⟨b, c⟩, d⟩, e⟩, f⟩, g⟩, i⟩, j⟩, k⟩ := h
  exact ⟨hk, b, of_decide_eq_true c, d, e, f, g, i, of_decide_eq_true j, of_decide_eq_true k⟩
noncomputable def ownC (scope : Scope) (C : Addr) : List (Str × Addr) := cellsFrom (C + 1) scope.names []
noncomputable def clC (p : Pl) (scope : Scope) : List (Str × Addr) := closeL (fun y => p.env.cells.lookup y) scope.names []
noncomputable def plC (p : Pl) (scope : Scope) (tv cp : List Str) (C : Addr) : Pl := ⟨p.A, sxC p.sx scope tv cp, compEnvC scope (ownC scope C ++ clC p scope) C p.env, tv.filterMap fun y => (ownC scope C).lookup y⟩
theorem comp2_frame {p : Pl} {W : Wd} {st : AS} {s : Shared} (I : Inv c p W st s) {scope : Scope} {tv cp : List Str} {caps : List Nat} (D : Comp2Is p.sx scope tv cp caps) {C : Addr} (hC : W.role C = .oth) (hC0 : c.h0.get? C = .none) {ml : Str → Option Value} (hml : ∀ x, ml x = .none) (hns : s.heap.Ns C ml)
    (hne : ∀ y a, p.env.cells.lookup y = some a → @LT.lt Nat _ a C) (hown : ∀ y a, (y, a) ∈ ownC scope C → s.heap.IsCell a .none ∧ @LT.lt Nat _ C a ∧ W.role a = .oth ∧ c.h0.get? a = .none) (hap : (ownC scope C).Pairwise fun x y => x.2 ≠ y.2) :
    FrV c (plC p scope tv cp C) W (List.replicate tv.length .unb ++ capsL caps st.loc) s.heap := by
  have F := I.fr
  have hk : ∀ x, Env.kindOf (plC p scope tv cp C).env x = (relS scope p.sx.sc).names.lookup x := fun x => by
    show (relabel scope p.env).names.lookup x = _
    rw [rel_static F.scope]
  have hko : ∀ x, p.env.kindOf x = p.sx.sc.names.lookup x := fun x => by show p.env.scope.names.lookup x = _; rw [F.scope]
  have hT : ∀ x ∈ tv, (relS scope p.sx.sc).names.lookup x = some .local ∨ ((relS scope p.sx.sc).names.lookup x = some .cell ∧ scope.names.lookup x = some .cell) := fun x hx => by
    have := List.all_eq_true.mp D.tvk x hx
    simpa using this
  have hP : ∀ x ∈ cp, (relS scope p.sx.sc).names.lookup x = some .cell := fun x hx => beq_iff_eq.mp (List.all_eq_true.mp D.cpk x hx)
  have hO : ∀ x ∈ cp, p.sx.sc.names.lookup x = some .cell := fun x hx => beq_iff_eq.mp (List.all_eq_true.mp D.cpo x hx)
  have hF : ∀ x ∈ cp, (x, NameKind.free) ∈ scope.names := fun x hx => by
    obtain ⟨z, hz, q⟩ := List.any_eq_true.mp (List.all_eq_true.mp D.frees x hx)
    obtain ⟨q1, q2⟩ := Bool.and_eq_true_iff.mp q
    have e1 : z.1 = x := beq_iff_eq.mp q1
    have e2 : z.2 = .free := beq_iff_eq.mp q2
    rw [← e1, ← e2]; exact hz
  have noOwn : ∀ x ∈ cp, (ownC scope C).lookup x = .none := fun x hx => by
    cases q : (ownC scope C).lookup x with
    | none => rfl
    | some a =>
      rcases from_mem (mem_of_lookup q) with z | z
      · cases z
      · cases kind_one D.nod z (hF x hx)
  have memC : ∀ x a, (clC p scope).lookup x = some a → p.env.cells.lookup x = some a := fun x a q => by
    rcases closeL_mem (mem_of_lookup q) with z | z
    · cases z
    · exact z
  have two : ∀ x a, (plC p scope tv cp C).env.cells.lookup x = some a → (ownC scope C).lookup x = some a ∨ ((ownC scope C).lookup x = .none ∧ p.env.cells.lookup x = some a) := fun x a q => by
    have q' : (ownC scope C ++ clC p scope).lookup x = some a := q
    rw [look_app] at q'
    cases z : (ownC scope C).lookup x with
    | some b => rw [z] at q'; exact .inl q'
    | none => rw [z] at q'; exact .inr ⟨rfl, memC x a q'⟩
  have has : ∀ x ∈ cp, ∀ a, p.env.cells.lookup x = some a → (plC p scope tv cp C).env.cells.lookup x = some a := fun x hx a q => by
    show (ownC scope C ++ clC p scope).lookup x = some a
    rw [look_app, noOwn x hx]
    obtain ⟨b, hb⟩ := closeL_has (f := fun y => p.env.cells.lookup y) (acc := []) (.inr ⟨hF x hx, a, q⟩)
    obtain ⟨b', hb'⟩ := lookup_of_mem hb
    show (clC p scope).lookup x = some a
    have hb'' : (clC p scope).lookup x = some b' := hb'
    rw [hb'']
    rw [memC x b' hb''] at q
    exact q
  have hv : ∀ x ∈ cp, x ∈ p.sx.vars := fun x hx => by
    have : some x ∈ caps.map (fun i => p.sx.vars[i]?) := by rw [D.vars]; exact List.mem_map.mpr ⟨x, hx, rfl⟩
    obtain ⟨i, _, q⟩ := List.mem_map.mp this
    exact List.mem_of_getElem? q
  have idx : ∀ (i : Nat) (x : Str) (v : AV), (tv ++ cp)[i]? = some x → (List.replicate tv.length AV.unb ++ capsL caps st.loc)[i]? = some v → v ≠ .unb → x ∈ cp ∧ ∃ j, p.sx.vars[j]? = some x ∧ st.loc[j]? = some v := fun i x v h1 h2 h3 => by
    rcases Nat.lt_or_ge i tv.length with q | q
    · rw [List.getElem?_append_left (by simpa using q), List.getElem?_replicate] at h2
      split at h2 <;> first | (cases h2; exact absurd rfl h3) | cases h2
    · rw [List.getElem?_append_right q] at h1
      rw [List.getElem?_append_right (by simpa using q), List.length_replicate] at h2
      refine ⟨List.mem_of_getElem? h1, ?_⟩
      unfold capsL at h2
      rw [List.getElem?_map] at h2
      obtain ⟨j, hj, hv⟩ := Option.map_eq_some_iff.mp h2
      have e1 : (caps.map (fun i => p.sx.vars[i]?))[i - tv.length]? = some (p.sx.vars[j]?) := by rw [List.getElem?_map, hj]; rfl
      rw [D.vars, List.getElem?_map, h1] at e1
      refine ⟨j, (Option.some.inj e1).symm, ?_⟩
      cases hl : st.loc[j]? with
      | none => rw [hl] at hv; exact absurd hv.symm h3
      | some w => rw [hl] at hv; exact congrArg some hv
  refine ⟨⟨ml, hns, fun i x v h1 h2 h3 h4 => ?_⟩, fun i x v h1 h2 h3 h4 => ?_, fun x a q => ?_, fun x hx q => ?_, fun x hx => ?_, ?_, fun a ha => ?_, hC, fun x a q => ?_, hC0, rel_static F.scope, D.kind, F.globals, F.builtins, D.nodup⟩
  · obtain ⟨hx, _⟩ := idx i x v h1 h2 h3
    rw [hk, hP x hx] at h4; cases h4
  · obtain ⟨hx, j, j1, j2⟩ := idx i x v h1 h2 h3
    obtain ⟨val, a, e1, e2, r⟩ := F.cl j x v j1 j2 h3 (by rw [hko]; exact hO x hx)
    exact ⟨val, a, has x hx a e1, e2, r⟩
  · rcases two x a q with z | ⟨_, z⟩
    · exact ⟨_, (hown x a (mem_of_lookup z)).1⟩
    · exact F.cells x a z
  · rcases List.mem_append.mp hx with hx | hx
    · rcases hT x hx with z | ⟨_, z⟩
      · rw [hk, z] at q; cases q
      · obtain ⟨a, w⟩ := Option.isSome_iff_exists.mp (cellsFrom_some (x := x) scope.names (C + 1) [] (.inl z))
        have w' : (ownC scope C).lookup x = some a := w
        refine ⟨a, ?_, fun _ => List.mem_filterMap.mpr ⟨x, hx, w'⟩⟩
        show (ownC scope C ++ clC p scope).lookup x = some a
        rw [look_app, w']
    · obtain ⟨a, e1, _⟩ := F.hasCell x (hv x hx) (by rw [hko]; exact hO x hx)
      refine ⟨a, has x hx a e1, fun ht => ?_⟩
      exact absurd rfl ((List.nodup_append.mp D.nodup).2.2 x ht x hx)
  · rcases List.mem_append.mp hx with hx | hx
    · rcases hT x hx with z | ⟨z, _⟩
      · exact .inl ((hk x).trans z)
      · exact .inr ((hk x).trans z)
    · exact .inr ((hk x).trans (hP x hx))
  · refine List.pairwise_append.mpr ⟨hap, closeL_apart (fun y z a h1 h2 => name_of_addr F.apart (mem_of_lookup h1) (mem_of_lookup h2)) List.Pairwise.nil (fun x hx => by cases hx) D.nod (fun x hx => by cases hx), fun x hx y hy q => ?_⟩
    have h1 := (hown x.1 x.2 hx).2.1
    rcases closeL_mem (y := y.1) (a := y.2) hy with z | z
    · cases z
    · have h2 := hne y.1 y.2 z
      rw [q] at h1
      exact Nat.lt_irrefl _ (Nat.lt_trans h1 h2)
  · obtain ⟨x, hx, q⟩ := List.mem_filterMap.mp ha
    refine ⟨x, ?_⟩
    show (ownC scope C ++ clC p scope).lookup x = some a
    rw [look_app, q]
  · rcases two x a q with z | ⟨_, z⟩
    · obtain ⟨_, h2, h3, h4⟩ := hown x a (mem_of_lookup z)
      exact ⟨h3, Nat.ne_of_gt h2, h4⟩
    · exact ⟨(F.roleC x a z).1, Nat.ne_of_lt (hne x a z), (F.roleC x a z).2.2⟩
theorem comp2_out {p : Pl} {C : Addr} {W W' : Wd} {s s' : Shared} {st : AS} {new : Addr → Prop} (hnew : ∀ a, new a → s.heap.get? a = .none) (hC0 : s.heap.get? C = .none) (hCr : W'.role C = .oth) (hCb : c.h0.get? C = .none) (hcC : ∀ y a, p.env.cells.lookup y = some a → a ≠ C) (hLC : p.env.locals ≠ C)
    (x : Ext (fun a => p.Own a ∨ new a) W s W' s') (I : Inv c p W' st s') {h' : Heap} (hs : Heap.SameBut C s'.heap h') : Ext p.Own W s W' { s' with heap := h' } ∧ Inv c p W' st { s' with heap := h' } := by
  refine comp_out hC0 hCr hCb hcC hLC ⟨x.le, x.alive, x.oth, fun a o hm hn q => x.kept a o hm (fun w => ?_) q, x.gens, x.os⟩ I hs
  rcases w with w | w
  · exact hn (.inl w)
  · rw [hnew a w] at q; cases q
end
end Mine

namespace Mine

section
variable {c : Cx} {n : Nat} {sx : Sx}

noncomputable def nx2 : List AV × List AV → AS → Option (Option (AV × (List AV × List AV))) := fun p _ => match p with
  | (x :: xs, y :: ys) => some (some (.tup [x, y], (xs, ys)))
  | _ => some .none
noncomputable def size2 : List AV × List AV → AS → Nat := fun p _ => p.1.length + 1
structure J2 (z TI TO i1 i2 l1 l2 : Addr) (v1 v2 : List Value) (p : List AV × List AV) (W : Wd) (st : AS) (h : Heap) : Prop where
  at_ : ∃ k, h.IsListIter i1 l1 k ∧ h.IsListIter i2 l2 k ∧ VRs W (v1.drop k) p.1 ∧ VRs W (v2.drop k) p.2
  hz : IsZip h z TI TO .none
  ti : IsPair h TI (.ref i1) (.ref i2)
  kp : ∃ a b, IsPair h TO a b
  f1 : ∃ m, W.role l1 = .frz (listOf v1.toArray m)
  f2 : ∃ m, W.role l2 = .frz (listOf v2.toArray m)
  ro : ∀ a ∈ [z, TI, TO, i1, i2], W.role a = .oth
theorem drop_get {vs : List Value} {k : Nat} {v : Value} {r : List Value} (h : vs.drop k = v :: r) : vs.toArray[k]? = some v ∧ vs.drop (k + 1) = r := by
  have hk : k < vs.length := by
    rcases Nat.lt_or_ge k vs.length with q | q
    · exact q
    · rw [List.drop_eq_nil_of_le q] at h; cases h
  rw [List.drop_eq_getElem_cons hk] at h
  cases h
  exact ⟨by rw [List.getElem?_toArray]; exact List.getElem?_eq_getElem hk, rfl⟩
theorem drop_end {vs : List Value} {k : Nat} (h : vs.drop k = []) : vs.toArray[k]? = none := by
  rw [List.getElem?_toArray, List.getElem?_eq_none_iff]; exact List.drop_eq_nil_iff.mp h
theorem J2.alive {z TI TO i1 i2 l1 l2 : Addr} {v1 v2 : List Value} {p : List AV × List AV} {W : Wd} {st : AS} {h : Heap} (j : J2 z TI TO i1 i2 l1 l2 v1 v2 p W st h) : ∀ b ∈ [z, TI, TO, i1, i2], ∃ o, h.get? b = some o := by
  obtain ⟨k, ⟨o1, q1, _⟩, ⟨o2, q2, _⟩, _, _⟩ := j.at_
  obtain ⟨a, b, q3⟩ := j.kp
  intro b hb
  simp only [List.mem_cons, List.not_mem_nil, or_false] at hb
  rcases hb with rfl | rfl | rfl | rfl | rfl
  · exact ⟨_, j.hz⟩
  · exact ⟨_, j.ti⟩
  · exact ⟨_, q3⟩
  · exact ⟨_, q1⟩
  · exact ⟨_, q2⟩
theorem J2.keep {z TI TO i1 i2 l1 l2 : Addr} {v1 v2 : List Value} {p : List AV × List AV} {W W' : Wd} {st st' : AS} {h h' : Heap} (j : J2 z TI TO i1 i2 l1 l2 v1 v2 p W st h) (L : Le W W') (k : ∀ b ∈ [z, TI, TO, i1, i2], ∀ o, h.get? b = some o → h'.get? b = some o)
    (r : ∀ b ∈ [z, TI, TO, i1, i2], W'.role b = .oth) : J2 z TI TO i1 i2 l1 l2 v1 v2 p W' st' h' := by
  obtain ⟨n, q1, q2, q3, q4⟩ := j.at_
  obtain ⟨a, b, q5⟩ := j.kp
  obtain ⟨m1, q6⟩ := j.f1
  obtain ⟨m2, q7⟩ := j.f2
  exact ⟨⟨n, q1.at fun o => k i1 (by simp) o, q2.at fun o => k i2 (by simp) o, q3.mono L, q4.mono L⟩, k z (by simp) _ j.hz, k TI (by simp) _ j.ti, ⟨a, b, k TO (by simp) _ q5⟩, ⟨m1, L.frz _ _ q6⟩, ⟨m2, L.frz _ _ q7⟩, r⟩
theorem zip2_itr {A : Around} (hh : A.handled = .none) {z TI TO i1 i2 l1 l2 : Addr} (v1 v2 : List Value) (D : ZipApart z TI TO i1 i2 l1 l2) : Itr c A z [z, TI, TO, i1, i2] [z, TO, i1, i2] goesU nx2 (J2 z TI TO i1 i2 l1 l2 v1 v2) where
  alive := fun p W st h j => j.alive
  frame := fun own p W W' st st' s s' hno j Iv x Iv' => j.keep x.le (fun b hb o e => x.kept b o (by unfold Wd.Mut; rw [j.ro b hb]; exact fun q => q) (hno b hb) e) fun b hb => let ⟨o, e⟩ := j.alive b hb; x.oth b o e (j.ro b hb)
  wrOk := fun p W st h j b hb => by
    have hb' : b ∈ [z, TI, TO, i1, i2] := by simp at hb ⊢; rcases hb with q | q | q | q <;> simp [q]
    exact ⟨j.ro b hb', j.alive b hb'⟩
  next := fun p p' x W st s tgt hg j Iv e Q E hQ => by
    obtain ⟨k, q1, q2, q3, q4⟩ := j.at_
    obtain ⟨a, b, q5⟩ := j.kp
    obtain ⟨m1, q6⟩ := j.f1
    obtain ⟨m2, q7⟩ := j.f2
    obtain ⟨xs, ys⟩ := p
    cases tgt with
    | Tuple elts kk pos =>
      cases xs with
      | nil => cases e
      | cons x1 xs =>
        cases ys with
        | nil => cases e
        | cons y1 ys =>
          cases e
          dsimp only at q3 q4
          generalize e1 : v1.drop k = d1 at q3
          generalize e2 : v2.drop k = d2 at q4
          cases q3 with
          | @cons va _ _ _ r1 rs1 =>
            cases q4 with
            | @cons vb _ _ _ r2 rs2 =>
              obtain ⟨g1, g1'⟩ := drop_get e1
              obtain ⟨g2, g2'⟩ := drop_get e2
              refine wpAny_pyNext_zip_item D j.hz j.ti q5 q1 q2 (Iv.isList q6) (Iv.isList q7) g1 g2 fun h' a1 a2 a3 a4 a5 a6 a7 => ?_
              dsimp only
              refine wpAny_letOwnedTupleGo_zip a1 fun h2 hz2 hs2 => ?_
              have hT : s.heap.get? s.heap.objs.size = .none := get_none_of_ge (Nat.le_refl _)
              have ne : ∀ b ∈ [z, TI, TO, i1, i2], b ≠ s.heap.objs.size := fun b hb => by obtain ⟨o, ho⟩ := j.alive b hb; exact Nat.ne_of_lt (Heap.lt_size ho)
              have L := Le.set (r := .frz { cls := .type "tuple", data := .seq (List.toArray [va, vb]) }) (Iv.oth_of_none hT)
              have tT := hs2.extBut _ _ (Ne.symm (ne z (by simp))) a5
              have up : ∀ b o, b ≠ z → h'.get? b = some o → h2.get? b = some o := fun b o hb => hs2.extBut b o hb
              refine hQ _ (.ref s.heap.objs.size) h2 s.toks (.inr ⟨_, _, hT, tT, rfl⟩) (.tup (vs := [va, vb]) Wd.set_self rfl rfl (.cons (r1.mono L) (.cons (r2.mono L) .nil)))
                ⟨⟨k + 1, a3.at fun o => up i1 o D.i1z, a4.at fun o => up i2 o D.i2z, by rw [g1']; exact rs1.mono L, by rw [g2']; exact rs2.mono L⟩, hz2, up _ _ D.TIz (a7 _ _ D.TIz D.TITO D.TIi1 D.TIi2 j.ti), ⟨_, _, up _ _ D.TOz a2⟩, ⟨m1, L.frz _ _ q6⟩, ⟨m2, L.frz _ _ q7⟩, fun b hb => by rw [Wd.set_other (ne b hb)]; exact j.ro b hb⟩ fun b o hb q => ?_
              have hb4 : b ≠ z ∧ b ≠ TO ∧ b ≠ i1 ∧ b ≠ i2 := by simpa using hb
              exact up b o hb4.1 (a7 b o hb4.1 hb4.2.1 hb4.2.2.1 hb4.2.2.2 q)
    | _ => cases hg
  stop := fun p W st s j Iv e Q E hQ => by
    obtain ⟨k, q1, q2, q3, q4⟩ := j.at_
    obtain ⟨a, b, q5⟩ := j.kp
    obtain ⟨m1, q6⟩ := j.f1
    obtain ⟨m2, q7⟩ := j.f2
    obtain ⟨xs, ys⟩ := p
    dsimp only at q3 q4
    generalize e1 : v1.drop k = d1 at q3
    generalize e2 : v2.drop k = d2 at q4
    have hend : v1.toArray[k]? = none ∨ v2.toArray[k]? = none := by
      cases q3 with
      | nil => exact .inl (drop_end e1)
      | cons r1 rs1 =>
        cases q4 with
        | nil => exact .inr (drop_end e2)
        | cons r2 rs2 => cases e
    refine wpAny_pyNext_zip_end hh D j.hz j.ti q5 q1 q2 (Iv.isList q6) (Iv.isList q7) hend fun h' a7 => hQ h' s.toks fun b o hb q => ?_
    have hb4 : b ≠ z ∧ b ≠ TO ∧ b ≠ i1 ∧ b ≠ i2 := by simpa using hb
    exact a7 b o hb4.1 hb4.2.1 hb4.2.2.1 hb4.2.2.2 q
  self := fun p W st s j Q E hQ => wpAny_pyIter_zip j.hz hQ
noncomputable def zip2It : List AV → Cm (List AV × List AV) := fun xs => match xs with
  | [.lst a, .lst b] => pu (a, b)
  | _ => no
theorem ImplI.zip2 (G : Gd c) {x : Str} {p0 pos : Pos} {es : List Expr} {fs : Cm (List AV)} (hx : sx.sc.names.lookup x = some .globalImplicit) (hg : c.Glob x (.type "zip")) (h : ImplEs c n sx es fs) (hd : (x == ("__debug__" : Str)) = false := by decide) (hp : es.all plainX = true := by rfl) :
    ImplI c n sx (.Call (.Name x p0) es [] pos) goesU (bd fs zip2It) nx2 := by
  intro p hsx hr W st s I i st' e Q E hQ
  obtain ⟨ys, st1, e1, e2⟩ := bd_some e
  refine Call_ (load_glob G I (by rw [hsx]; exact hx) hg hd ?_)
  refine PyProof.Rows.callWith_type (any_false hp) (evalArgs_row hp ?_)
  refine h p hsx hr W pos W st s (Le.refl _) I ys st1 e1 _ E fun W1 vs s1 x1 I1 r1 => ?_
  unfold zip2It at e2
  split at e2
  · cases e2
    cases r1 with
    | cons r1 r1' =>
      cases r1' with
      | cons r2 r2' =>
        cases r2'
        obtain ⟨a1, v1, m1, rfl, f1, g1⟩ := r1.inv_lst
        obtain ⟨a2, v2, m2, rfl, f2, g2⟩ := r2.inv_lst
        have l1 := Heap.lt_size (I1.hr.frz _ _ f1)
        have l2 := Heap.lt_size (I1.hr.frz _ _ f2)
        refine call_zip_2 (I1.hr.isList f1) (I1.hr.isList f2) fun h' q1 q2 q3 q4 q5 _ kk => ?_
        have fresh : ∀ b ∈ [s1.heap.objs.size + 4, s1.heap.objs.size + 2, s1.heap.objs.size + 3, s1.heap.objs.size, s1.heap.objs.size + 1], s1.heap.get? b = .none := fun b hb => get_none_of_ge (by simp at hb; omega)
        have x2 : Ext p.Own W1 s1 W1 { s1 with heap := h' } := Ext.keeps _ _ kk rfl rfl
        refine wpAny_pyIter_zip q1 ?_
        refine hQ W1 _ _ _ _ _ (x1.trans x2) (I1.keeps kk) (zip2_itr hr.1 v1 v2 (zipApart_new l1 l2)) ⟨⟨0, q4, q5, g1, g2⟩, q1, q2, ⟨_, _, q3⟩, ⟨m1, f1⟩, ⟨m2, f2⟩, fun b hb => I1.hr.oth_of_none (fresh b hb)⟩ (fun b hb => ?_) (fun b hb => I1.fresh_own (fresh b hb))
        have hb' := fresh b (by simp at hb ⊢; rcases hb with q | q | q | q <;> simp [q])
        cases w : s.heap.get? b with
        | none => rfl
        | some o => obtain ⟨o1, z1⟩ := x1.alive _ o w; rw [hb'] at z1; cases z1
  · cases e2
noncomputable def turnForm (target iter : Expr) (ifs : List Expr) (em : Value → Env → Sem Unit) (e : Expr) (d : Nat) (it acc : Value) (env : Env) : Sem Fin := do
  standAt iter.pos
  match ← pyNext it with
  | none => pure (.done .next)
  | some v =>
    letOwnedTupleGo target it v
    assign target env v
    let mut ok := true
    for c in ifs do
      if ok then ok ← isTrue c env (eval c env)
    if ok then em acc env
    again (.compLoop e d it acc env)
noncomputable def em1 (elt : Expr) : Value → Env → Sem Unit := fun acc env => do let _ ← call (.builtin "list.append") [acc, ← eval elt env]
noncomputable def em2 (elt : Expr) (gens : List Comprehension) (scope : Scope) (pos : Pos) (iter : Expr) : Value → Env → Sem Unit := fun acc env => do
  let x ← eval iter env
  standAt iter.pos
  let x ← foldedSetIterable iter env x
  let _ ← runOwn (.compStart (.ListComp elt gens scope pos) 1 (← holding [x] (pyIter x)) acc env) env
theorem turn_1 (elt target iter : Expr) (ifs : List Expr) (scope : Scope) (pos : Pos) (it acc : Value) (env : Env) : compTurn (.ListComp elt [⟨target, iter, ifs, 0⟩] scope pos) 0 it acc env = turnForm target iter ifs (em1 elt) (.ListComp elt [⟨target, iter, ifs, 0⟩] scope pos) 0 it acc env := by rfl
noncomputable def em2K (elt : Expr) (gens : List Comprehension) (scope : Scope) (pos : Pos) (iter : Expr) : Value → Env → Sem Fin → Sem Fin := fun acc env k => do
  let x ← eval iter env
  standAt iter.pos
  let x ← foldedSetIterable iter env x
  let _ ← runOwn (.compStart (.ListComp elt gens scope pos) 1 (← holding [x] (pyIter x)) acc env) env
  k
noncomputable def turnK (target iter : Expr) (ifs : List Expr) (em : Value → Env → Sem Fin → Sem Fin) (e : Expr) (d : Nat) (it acc : Value) (env : Env) : Sem Fin := do
  standAt iter.pos
  match ← pyNext it with
  | none => pure (.done .next)
  | some v =>
    letOwnedTupleGo target it v
    assign target env v
    let mut ok := true
    for c in ifs do
      if ok then ok ← isTrue c env (eval c env)
    if ok then em acc env (again (.compLoop e d it acc env)) else again (.compLoop e d it acc env)
theorem em2K_eq (elt : Expr) (gens : List Comprehension) (scope : Scope) (pos : Pos) (iter : Expr) : em2K elt gens scope pos iter = fun acc env k => em2 elt gens scope pos iter acc env >>= fun _ => k := by
  funext acc env k
  unfold em2K em2
  simp only [bind_assoc, pure_bind]
theorem turn_20 (elt t1 i1 t2 i2 : Expr) (f1 f2 : List Expr) (scope : Scope) (pos : Pos) (it acc : Value) (env : Env) : compTurn (.ListComp elt [⟨t1, i1, f1, 0⟩, ⟨t2, i2, f2, 0⟩] scope pos) 0 it acc env = turnForm t1 i1 f1 (em2 elt [⟨t1, i1, f1, 0⟩, ⟨t2, i2, f2, 0⟩] scope pos i2) (.ListComp elt [⟨t1, i1, f1, 0⟩, ⟨t2, i2, f2, 0⟩] scope pos) 0 it acc env := by
  have e : compTurn (.ListComp elt [⟨t1, i1, f1, 0⟩, ⟨t2, i2, f2, 0⟩] scope pos) 0 it acc env = turnK t1 i1 f1 (em2K elt [⟨t1, i1, f1, 0⟩, ⟨t2, i2, f2, 0⟩] scope pos i2) (.ListComp elt [⟨t1, i1, f1, 0⟩, ⟨t2, i2, f2, 0⟩] scope pos) 0 it acc env := by rfl
  rw [e, em2K_eq]
  rfl
theorem turn_21 (elt t1 i1 t2 i2 : Expr) (f1 f2 : List Expr) (scope : Scope) (pos : Pos) (it acc : Value) (env : Env) : compTurn (.ListComp elt [⟨t1, i1, f1, 0⟩, ⟨t2, i2, f2, 0⟩] scope pos) 1 it acc env = turnForm t2 i2 f2 (em1 elt) (.ListComp elt [⟨t1, i1, f1, 0⟩, ⟨t2, i2, f2, 0⟩] scope pos) 1 it acc env := by rfl
theorem clo_any {elt target iter : Expr} {ifs : List Expr} {gens : List Comprehension} {scope : Scope} {pos : Pos} {d : Nat} {em : Value → Env → Sem Unit} {it acc : Value} {A : Around} {env : Env} {R : Result → Shared → Prop} {s : Shared}
    (ht : compTurn (.ListComp elt gens scope pos) d it acc env = turnForm target iter ifs em (.ListComp elt gens scope pos) d it acc env) (I : Nat → Shared → Prop)
    (turn : ∀ n s, I n s → wpAny (model c.prog c.w) A (pyNext it) (fun r s₁ => match r with
      | .none => R (.ok .next) s₁
      | some v => wpAny (model c.prog c.w) A (letOwnedTupleGo target it v) (fun _ s₁' => wpAny (model c.prog c.w) A (assign target env v) (fun _ s₂ =>
          wpAny (model c.prog c.w) A (forIn ifs true fun c r => if r = true then do let ok ← isTrue c env (eval c env); pure (ForInStep.yield ok) else pure (ForInStep.yield r)) (fun ok s₃ =>
            if ok = true then wpAny (model c.prog c.w) A (em acc env) (fun _ s₅ => ∃ m, m < n ∧ I m s₅) (fun _ _ => False) s₃
            else ∃ m, m < n ∧ I m s₃) (fun _ _ => False) s₂) (fun _ _ => False) s₁') (fun _ _ => False) s₁) (fun _ _ => False) s)
    (n : Nat) (h : I n s) : codeAny (model c.prog c.w) A (.compLoop (.ListComp elt gens scope pos) d it acc env) R s := by
  refine codeAny_loop rfl I (fun n s hI => ?_) n h
  show wpAny _ A ((compTurn (.ListComp elt gens scope pos) d it acc env).onRaise (fun x => do noteFrame x env; theTreesLotGoes x)) _ _ s
  refine wpAny_noted (wpAny_noRaise ?_)
  rw [ht]
  refine wpAny_bind (wpAny_standAt (wpAny_bind (wpAny_mono (turn n s hI) (fun r s₁ h₁ => ?_) fun _ _ h' => h')))
  cases r with
  | none => exact wpAny_pure h₁
  | some v =>
    refine wpAny_bind (wpAny_mono h₁ (fun _ s₁' h₁' => wpAny_bind (wpAny_mono h₁' (fun _ s₂ h₂ => wpAny_bind (wpAny_mono h₂ (fun ok s₃ h₃ => ?_) fun _ _ h' => h')) fun _ _ h' => h')) fun _ _ h' => h')
    cases ok with
    | false => exact wpAny_pure ⟨rfl, h₃⟩
    | true => exact wpAny_bind (wpAny_mono h₃ (fun _ s₅ h₅ => wpAny_pure ⟨rfl, h₅⟩) fun _ _ h' => h')
noncomputable def cloG {σ : Type} (nx : σ → AS → Option (Option (AV × σ))) (tgt : AV → Cm Unit) (ft : Cm Bool) (fm : Cm Unit) : Nat → σ → Cm Unit
  | 0, _ => no
  | m + 1, i => fun st => match nx i st with
    | .none => .none
    | some .none => some ((), st)
    | some (some (x, i')) => (bd (tgt x) fun _ => bd ft fun ok => if ok then (bd fm fun _ => cloG nx tgt ft fm m i') else cloG nx tgt ft fm m i') st
theorem FrV.pokeW {q : Pl} {W W' : Wd} {loc : List AV} {h h' : Heap} {wr : List Addr} (F : FrV c q W loc h) (H : ∀ a, h.get? a = .none → W.role a = .oth) (hL : ∀ b ∈ wr, b ≠ q.env.locals) (hC : ∀ b ∈ wr, ∀ y, q.env.cells.lookup y ≠ some b)
    (k : ∀ b o, b ∉ wr → h.get? b = some o → h'.get? b = some o) (hN : NewW W h W' h') : FrV c q W' loc h' := by
  have F1 : FrV c q W loc h' := F.grow fun b o hb e => k b o (fun z => by
    rcases hb with hb | ⟨y, hb⟩
    · exact hL b z hb
    · exact hC b z y hb) e
  rcases hN with rfl | ⟨T, o, hT, hT', rfl⟩
  · exact F1
  · refine F1.mono (Le.set (H T hT)) ?_ fun y a z => ?_
    · rw [Wd.set_other]
      · exact F1.roleL
      · intro z
        obtain ⟨ml, ⟨o1, es, ep, ho, _⟩, _⟩ := F.ns
        rw [z, hT] at ho; cases ho
    · rw [Wd.set_other]
      · exact (F1.roleC y a z).1
      · intro z'
        obtain ⟨v', o1, ho, _⟩ := F.cells y a z
        rw [z', hT] at ho; cases ho
theorem Inv.pokeW {q : Pl} {W W' : Wd} {st : AS} {s : Shared} {h' : Heap} {tk : Nat} {wr : List Addr} (I : Inv c q W st s) (hb0 : ∀ b ∈ wr, c.h0.get? b = .none) (hL : ∀ b ∈ wr, b ≠ q.env.locals) (hC : ∀ b ∈ wr, ∀ y, q.env.cells.lookup y ≠ some b) (ho : ∀ b ∈ wr, W.role b = .oth)
    (k : ∀ b o, b ∉ wr → s.heap.get? b = some o → h'.get? b = some o) (hN : NewW W s.heap W' h') : Inv c q W' st { s with heap := h', toks := tk } := by
  refine ⟨?_, I.fr.pokeW (fun a => I.hr.oth_of_none) hL hC k hN⟩
  have H1 : HR c W st h' := I.hr.grow fun b o hb e => k b o (fun z => by
    rcases hb with ⟨o', hb⟩ | hb
    · rw [hb0 b z] at hb; cases hb
    · exact hb (ho b z)) e
  rcases hN with rfl | ⟨T, o, hT, hT', rfl⟩
  · exact H1
  · exact H1.newFrz (I.hr.oth_of_none hT) hT'
theorem Ext.pokeW {own : Addr → Prop} {W0 W W' : Wd} {s0 s : Shared} {h' : Heap} {tk : Nat} {wr : List Addr} (x : Ext own W0 s0 W s) (H : ∀ a, s.heap.get? a = .none → W.role a = .oth) (I0 : ∀ b ∈ wr, s0.heap.get? b = .none)
    (k : ∀ b o, b ∉ wr → s.heap.get? b = some o → h'.get? b = some o) (hN : NewW W s.heap W' h') : Ext own W0 s0 W' { s with heap := h', toks := tk } := by
  have nw : ∀ b o, s0.heap.get? b = some o → b ∉ wr := fun b o e z => by rw [I0 b z] at e; cases e
  have a1 : ∀ b o, s0.heap.get? b = some o → ∃ o', h'.get? b = some o' := fun b o e => let ⟨o1, e1⟩ := x.alive b o e; ⟨o1, k b o1 (nw b o e) e1⟩
  have a2 : ∀ b o, ¬ W0.Mut b → ¬ own b → s0.heap.get? b = some o → h'.get? b = some o := fun b o hm hn e => k b o (nw b o e) (x.kept b o hm hn e)
  rcases hN with rfl | ⟨T, o, hT, hT', rfl⟩
  · exact ⟨x.le, a1, x.oth, a2, x.gens, x.os⟩
  · refine ⟨x.le.trans (Le.set (H T hT)), a1, fun b o e z => ?_, a2, x.gens, x.os⟩
    rw [Wd.set_other]
    · exact x.oth b o e z
    · intro z'
      obtain ⟨o1, e1⟩ := x.alive b o e
      rw [z', hT] at e1; cases e1
theorem NewW.le {W W' : Wd} {h h' : Heap} (hN : NewW W h W' h') (H : ∀ a, h.get? a = .none → W.role a = .oth) : Le W W' := by
  rcases hN with rfl | ⟨T, o, hT, hT', rfl⟩
  · exact Le.refl _
  · exact Le.set (H T hT)
structure Car (p : Pl) (wr : List Addr) (Φ : Wd → Shared → Prop) : Prop where
  ext : ∀ W s W' s', Φ W s → Ext p.Own W s W' s' → Φ W' s'
  poke : ∀ W s W' h' tk, Φ W s → (∀ a, s.heap.get? a = .none → W.role a = .oth) → (∀ b o, b ∉ wr → s.heap.get? b = some o → h'.get? b = some o) → NewW W s.heap W' h' → Φ W' { s with heap := h', toks := tk }
theorem clo_loop {p : Pl} {I : Addr} {fp wr : List Addr} {gt : Expr → Bool} {σ : Type} {nx : σ → AS → Option (Option (AV × σ))} {J : σ → Wd → AS → Heap → Prop} (T : Itr c p.A I fp wr gt nx J) (hfp : ∀ b ∈ fp, ¬ p.Own b) (hr : Room n p.A)
    {elt target iter : Expr} {ifs : List Expr} {gens : List Comprehension} {scope : Scope} {pos : Pos} {d : Nat} {em : Value → Env → Sem Unit} {acc : Value} {K : Nat}
    (hturn : compTurn (.ListComp elt gens scope pos) d (.ref I) acc p.env = turnForm target iter ifs em (.ListComp elt gens scope pos) d (.ref I) acc p.env)
    {tgt : AV → Cm Unit} {ft : Cm Bool} {fm : Cm Unit} (hg : gt target = true) (h1 : ImplA c n p.sx target tgt) (ht : ImplC c n p.sx ifs ft) (h2 : ∀ W, VR W acc (.lob K) → Ok c p W (em acc p.env) (fun _ _ _ => True) fm)
    (hb0 : ∀ b ∈ wr, c.h0.get? b = .none) (hL : ∀ b ∈ wr, b ≠ p.env.locals) (hC : ∀ b ∈ wr, ∀ y, p.env.cells.lookup y ≠ some b) {Φ : Wd → Shared → Prop} (Cr : Car p wr Φ)
    {W : Wd} {s : Shared} {st : AS} (Iv : Inv c p W st s) (ph : Φ W s) (hK : VR W acc (.lob K)) {m : Nat} {i : σ} (j : J i W st s.heap) {st' : AS} (e : cloG nx tgt ft fm m i st = some ((), st')) {R : Result → Shared → Prop}
    (hR : ∀ W' s', Φ W' s' → Inv c p W' st' s' → VR W' acc (.lob K) → R (.ok .next) s') : codeAny (model c.prog c.w) p.A (.compLoop (.ListComp elt gens scope pos) d (.ref I) acc p.env) R s := by
  obtain ⟨P, hP⟩ : ∃ P : Nat → Shared → Prop, ∀ k s', P k s' ↔ ∃ W' st1 i', Φ W' s' ∧ Inv c p W' st1 s' ∧ VR W' acc (.lob K) ∧ J i' W' st1 s'.heap ∧ cloG nx tgt ft fm k i' st1 = some ((), st') := ⟨_, fun _ _ => Iff.rfl⟩
  refine clo_any hturn P ?_ m ((hP _ _).mpr ⟨W, st, i, ph, Iv, hK, j, e⟩)
  intro k s1 hPk
  obtain ⟨W1, st1, i1, ph1, Iv1, hK1, j1, e1⟩ := (hP _ _).mp hPk
  have ho1 : ∀ b ∈ wr, W1.role b = .oth := fun b hb => (T.wrOk i1 W1 st1 s1.heap j1 b hb).1
  have H1 : ∀ a, s1.heap.get? a = .none → W1.role a = .oth := fun a => Iv1.hr.oth_of_none
  cases k with
  | zero => cases e1
  | succ k =>
    simp only [cloG] at e1
    split at e1
    · cases e1
    · rename_i hnx
      cases e1
      refine wpAny_mono (T.stop i1 W1 st' s1 j1 Iv1.hr hnx (fun s2 => R (.ok .next) s2) (fun _ _ => False) fun h' tk hk => ?_) (fun q s2 hq => ?_) fun _ _ q => q
      · exact hR W1 _ (Cr.poke _ _ _ _ _ ph1 H1 hk (.inl rfl)) (Iv1.pokeW hb0 hL hC ho1 hk (.inl rfl)) hK1
      · cases q with
        | none => exact hq
        | some => exact hq.elim
    · rename_i xv i2 hnx
      obtain ⟨u, st2, e2, e3⟩ := bd_some e1
      obtain ⟨ok, st3, e4, e5⟩ := bd_some e3
      refine wpAny_mono (T.next i1 i2 xv W1 st1 s1 target hg j1 Iv1.hr hnx (fun v s2 => wpAny (model c.prog c.w) p.A (assign target p.env v) (fun _ s₂ =>
          wpAny (model c.prog c.w) p.A (forIn ifs true fun c r => if r = true then do let ok ← isTrue c p.env (eval c p.env); pure (ForInStep.yield ok) else pure (ForInStep.yield r)) (fun ok s₃ =>
            if ok = true then wpAny (model c.prog c.w) p.A (em acc p.env) (fun _ s₅ => ∃ m, m < k + 1 ∧ P m s₅) (fun _ _ => False) s₃
            else ∃ m, m < k + 1 ∧ P m s₃) (fun _ _ => False) s₂) (fun _ _ => False) s2) (fun _ _ => False) fun W2 v h' tk hN rv j2 hk => ?_) (fun q s2 hq => ?_) fun _ _ q => q
      · have I2 := Iv1.pokeW (tk := tk) hb0 hL hC ho1 hk hN
        have ph2 := Cr.poke _ _ _ _ tk ph1 H1 hk hN
        refine h1 p rfl hr W2 v xv rv W2 st1 _ (Le.refl _) I2 u st2 e2 _ _ fun W3 _ s3 x3 I3 _ => ?_
        have j3 := T.frame p.Own i2 W2 W3 st1 st2 { s1 with heap := h', toks := tk } s3 hfp j2 I2.hr x3 I3.hr
        refine ht p rfl hr W3 W3 st2 s3 (Le.refl _) I3 ok st3 e4 _ _ fun W4 ok' s4 x4 I4 r4 => ?_
        subst r4
        have j4 := T.frame p.Own i2 W3 W4 st2 st3 s3 s4 hfp j3 I3.hr x4 I4.hr
        have ph4 := Cr.ext _ _ _ _ (Cr.ext _ _ _ _ ph2 x3) x4
        have hK4 := ((hK1.mono (hN.le H1)).mono x3.le).mono x4.le
        cases ok' with
        | false =>
          rw [if_neg Bool.false_ne_true] at e5 ⊢
          exact ⟨k, Nat.lt_succ_self _, (hP _ _).mpr ⟨W4, st3, i2, ph4, I4, hK4, j4, e5⟩⟩
        | true =>
          rw [if_pos rfl] at e5 ⊢
          obtain ⟨u5, st5, e6, e7⟩ := bd_some e5
          refine h2 W4 hK4 W4 st3 s4 (Le.refl _) I4 u5 st5 e6 _ _ fun W5 _ s5 x5 I5 _ => ?_
          have j5 := T.frame p.Own i2 W4 W5 st3 st5 s4 s5 hfp j4 I4.hr x5 I5.hr
          exact ⟨k, Nat.lt_succ_self _, (hP _ _).mpr ⟨W5, st5, i2, Cr.ext _ _ _ _ ph4 x5, I5, hK4.mono x5.le, j5, e7⟩⟩
      · cases q with
        | none => exact hq.elim
        | some v => exact hq
noncomputable def emit1 (fe : Cm AV) (K : Nat) : Cm Unit := bd fe fun v => bd (appendM (.lob K) [v]) fun _ => pu ()
theorem emit1_ok {elt : Expr} {fe : Cm AV} (h : ImplE c n sx elt fe) {p : Pl} (hsx : p.sx = sx) (hr : Room n p.A) {W : Wd} {acc : Value} {K : Nat} (hK : VR W acc (.lob K)) : Ok c p W (em1 elt acc p.env) (fun _ _ _ => True) (emit1 fe K) := by
  refine Ok.bind (h p hsx hr W) fun W1 v x hle rv => ?_
  refine Ok.bind (append_ok (n := n) p hr W1 acc (.lob K) [v] [x] (hK.mono hle) (.cons rv .nil)) fun W2 _ _ _ _ => Ok.pure fun _ _ => trivial
theorem compStart_1 {elt t1 i1 t2 i2 : Expr} {f1 f2 : List Expr} {scope : Scope} {pos : Pos} {it acc : Value} {env : Env} {A : Around} {R : Result → Shared → Prop} {s : Shared}
    (h0 : codeAny (model c.prog c.w) A (.compLoop (.ListComp elt [⟨t1, i1, f1, 0⟩, ⟨t2, i2, f2, 0⟩] scope pos) 1 it acc env) R s)
    (h : wpAny (model c.prog c.w) A (pyIter it) (fun it' s' => codeAny (model c.prog c.w) A (.compLoop (.ListComp elt [⟨t1, i1, f1, 0⟩, ⟨t2, i2, f2, 0⟩] scope pos) 1 it' acc env) R s') (notedBy (model c.prog c.w) A env fun x s' => R (.error x) s') s) :
    codeAny (model c.prog c.w) A (.compStart (.ListComp elt [⟨t1, i1, f1, 0⟩, ⟨t2, i2, f2, 0⟩] scope pos) 1 it acc env) R s := by
  refine codeAny_of_tree ?_
  show wpAny _ _ ((compStart (.ListComp elt [⟨t1, i1, f1, 0⟩, ⟨t2, i2, f2, 0⟩] scope pos) 1 it acc env).onRaise (fun x => do noteFrame x env; standAt theWindowsPlace)) _ _ s
  refine wpAny_notedAt ?_
  unfold compStart
  show wpAny _ _ (ask >>= _) _ _ s
  refine wpAny_bind (wpAny_askSetting (wpAny_ite ?_))
  split
  · exact wpAny_bind (wpAny_pure (wpAny_pure ⟨rfl, h0⟩))
  · refine wpAny_bind (wpAny_rule ?_)
    show wpAny _ _ (standAt i2.pos >>= _) _ _ s
    exact wpAny_bind (wpAny_standAt (wpAny_bind (wpAny_mono h (fun it' s' h' => wpAny_pure ⟨rfl, h'⟩) fun _ _ x => x)))
noncomputable def emit2 {σ : Type} (f : Cm σ) (size : σ → AS → Nat) (nx : σ → AS → Option (Option (AV × σ))) (tgt : AV → Cm Unit) (ft : Cm Bool) (fe : Cm AV) (K : Nat) : Cm Unit := bd f fun i st => cloG nx tgt ft (emit1 fe K) (size i st) i st
theorem emit2_ok {σ : Type} {gt : Expr → Bool} {f : Cm σ} {size : σ → AS → Nat} {nx : σ → AS → Option (Option (AV × σ))} {tgt : AV → Cm Unit} {ft : Cm Bool} {fe : Cm AV} {elt t1 i1 t2 i2 : Expr} {f1 f2 : List Expr} {scope : Scope} {pos : Pos}
    (h0 : ImplI c n sx i2 gt f nx) (h1 : ImplA c n sx t2 tgt) (ht : ImplC c n sx f2 ft) (h2 : ImplE c n sx elt fe) (hg : gt t2 = true) (hs : ∀ env x, foldedSetIterable i2 env x = pure x) {p : Pl} (hsx : p.sx = sx) (hr : Room n p.A) {W : Wd} {acc : Value} {K : Nat} (hK : VR W acc (.lob K)) :
    Ok c p W (em2 elt [⟨t1, i1, f1, 0⟩, ⟨t2, i2, f2, 0⟩] scope pos i2 acc p.env) (fun _ _ _ => True) (emit2 f size nx tgt ft fe K) := by
  intro W1 st s hle I b st' e Q E hQ
  obtain ⟨i, st1, e1, e2⟩ := bd_some e
  unfold em2
  refine wpAny_bind (wpAny_mono (h0 p hsx hr W1 st s I i st1 e1 (fun it s2 => codeAny (model c.prog c.w) p.A (.compStart (.ListComp elt [⟨t1, i1, f1, 0⟩, ⟨t2, i2, f2, 0⟩] scope pos) 1 it acc p.env) (fun r s' => match r with | .ok _ => Q () s' | .error _ => False) s2) E fun W2 s2 It fp wr J x2 I2 T j hwr hfp => ?_)
    (fun x s1 q1 => wpAny_bind (wpAny_standAt (wpAny_bind (wpAny_of_eq (hs p.env x) (wpAny_bind (wpAny_holding (wpAny_mono q1 (fun it s2 q2 => wpAny_bind (wpAny_runOwn (codeAny_mono q2 fun r s' q3 => ?_))) fun _ _ q => q))))))) fun _ _ q => q)
  · subst hsx
    have loop : codeAny (model c.prog c.w) p.A (.compLoop (.ListComp elt [⟨t1, i1, f1, 0⟩, ⟨t2, i2, f2, 0⟩] scope pos) 1 (.ref It) acc p.env) (fun r s' => match r with | .ok _ => Q () s' | .error _ => False) s2 := by
      refine clo_loop T hfp hr (turn_21 _ _ _ _ _ _ _ _ _ _ _ _) hg h1 ht (fun W hK => emit1_ok h2 rfl hr hK) (fun b hb => I.hr.base_none (hwr b hb)) (fun b hb q => ?_) (fun b hb y q => ?_) (Φ := fun W' s' => Ext p.Own W1 s W' s') ⟨fun _ _ _ _ x y => x.trans y, fun _ _ _ _ _ x H k hN => x.pokeW H hwr k hN⟩ I2 x2 ((hK.mono hle).mono x2.le) j e2 fun W' s' ph Iv _ => hQ W' b s' ph Iv trivial
      · obtain ⟨ml, ⟨o1, es, ep, ho, _⟩, _⟩ := I.fr.ns
        rw [← q, hwr b hb] at ho; cases ho
      · obtain ⟨v', o1, ho, _⟩ := I.fr.cells y b q
        rw [hwr b hb] at ho; cases ho
    exact compStart_1 loop (T.self i W2 _ _ j _ _ loop)
  · cases r with
    | ok f => exact wpAny_pure q3
    | error x => exact q3.elim
noncomputable def compN {σ : Type} (k : Nat) (caps : List Nat) (f : Cm σ) (size : σ → AS → Nat) (nx : σ → AS → Option (Option (AV × σ))) (tgt : AV → Cm Unit) (ft : Cm Bool) (fm : Nat → Cm Unit) : Cm AV := bd f fun i st =>
  match cloG nx tgt ft (fm st.nl) (size i st) i ⟨List.replicate k .unb ++ capsL caps st.loc, st.ins, pushL1 st.nl [] st.lst, st.nl + 1⟩ with
  | some (_, st') => some (.lob st.nl, { st' with loc := st.loc })
  | .none => .none
noncomputable def ImplM (c : Cx) (n : Nat) (sx : Sx) (em : Value → Env → Sem Unit) (fm : Nat → Cm Unit) : Prop := ∀ p : Pl, p.sx = sx → Room n p.A → ∀ W acc K, VR W acc (.lob K) → Ok c p W (em acc p.env) (fun _ _ _ => True) (fm K)
theorem ImplM.one {elt : Expr} {fe : Cm AV} (h : ImplE c n sx elt fe) : ImplM c n sx (em1 elt) (emit1 fe) := fun _ hsx hr _ _ _ hK => emit1_ok h hsx hr hK
theorem ImplM.two {σ : Type} {gt : Expr → Bool} {f : Cm σ} {size : σ → AS → Nat} {nx : σ → AS → Option (Option (AV × σ))} {tgt : AV → Cm Unit} {ft : Cm Bool} {fe : Cm AV} {elt t1 i1 t2 i2 : Expr} {f1 f2 : List Expr} {scope : Scope} {pos : Pos}
    (h0 : ImplI c n sx i2 gt f nx) (h1 : ImplA c n sx t2 tgt) (ht : ImplC c n sx f2 ft) (h2 : ImplE c n sx elt fe) (hg : gt t2 = true := by rfl) (hs : ∀ env x, foldedSetIterable i2 env x = pure x := by intro _ _; rfl) :
    ImplM c n sx (em2 elt [⟨t1, i1, f1, 0⟩, ⟨t2, i2, f2, 0⟩] scope pos i2) (emit2 f size nx tgt ft fe) := fun _ hsx hr _ _ _ hK => emit2_ok h0 h1 ht h2 hg hs hsx hr hK
theorem comp3_core {σ : Type} {gt : Expr → Bool} {f : Cm σ} {size : σ → AS → Nat} {nx : σ → AS → Option (Option (AV × σ))} {tgt : AV → Cm Unit} {ft : Cm Bool} {fm : Nat → Cm Unit} {elt target iter : Expr} {ifs : List Expr} {rest : List Comprehension} {em : Value → Env → Sem Unit} {scope : Scope} {pos pos' : Pos} {tv cp : List Str} {caps : List Nat}
    (D : Comp2Is sx scope tv cp caps) (hturn : ∀ it acc env, compTurn (.ListComp elt (⟨target, iter, ifs, 0⟩ :: rest) scope pos) 0 it acc env = turnForm target iter ifs em (.ListComp elt (⟨target, iter, ifs, 0⟩ :: rest) scope pos) 0 it acc env)
    (h0 : ImplI c n sx iter gt f nx) (h1 : ImplA c n (sxC sx scope tv cp) target tgt) (ht : ImplC c n (sxC sx scope tv cp) ifs ft) (h2 : ImplM c n (sxC sx scope tv cp) em fm) (hg : gt target = true) (hs : ∀ env x, foldedSetIterable iter env x = pure x)
    {p : Pl} (hsx : p.sx = sx) (hr : Room n p.A) {W : Wd} {st st' : AS} {s : Shared} (I : Inv c p W st s) {b : AV} (e : compN tv.length caps f size nx tgt ft fm st = some (b, st')) {use : Option (Value → Sem Unit)} {Q : Value → Shared → Prop} {E : Value → Shared → Prop}
    (hEnd : ∀ W' acc s' C (new : Addr → Prop), (∀ a, new a → s.heap.get? a = .none) → s.heap.get? C = .none → ¬ p.Own C → W'.role C = .oth → c.h0.get? C = .none → (∃ m, s'.heap.Ns C m) → (∀ y a, p.env.cells.lookup y = some a → a ≠ C) → p.env.locals ≠ C → Ext (fun a => p.Own a ∨ new a) W s W' s' → Inv c p W' st' s' → VR W' acc b → compPost (model c.prog c.w) p.A E use Q acc C (.ok .next) s') :
    wpAny (model c.prog c.w) p.A (comprehension (.ListComp elt (⟨target, iter, ifs, 0⟩ :: rest) scope pos) scope p.env pos' (newList []) false (eval iter p.env) use) Q E s := by
  subst hsx
  obtain ⟨i, st1, e1, e2⟩ := bd_some e
  split at e2
  case h_2 => cases e2
  rename_i u st2 he2
  cases e2
  have hcells : ∀ y, (y, NameKind.free) ∈ scope.names → ∃ a, p.env.cells.lookup y = some a := fun y hy => by
    have h1 := List.all_eq_true.mp D.free _ hy
    have hcp : y ∈ cp := by simpa using h1
    have hv : y ∈ p.sx.vars := by
      have : some y ∈ caps.map (fun i => p.sx.vars[i]?) := by rw [D.vars]; exact List.mem_map.mpr ⟨y, hcp, rfl⟩
      obtain ⟨i, _, q⟩ := List.mem_map.mp this
      exact List.mem_of_getElem? q
    obtain ⟨a, e1, _⟩ := I.fr.hasCell y hv (by
      show p.env.scope.names.lookup y = _
      rw [I.fr.scope]; exact beq_iff_eq.mp (List.all_eq_true.mp D.cpo y hcp))
    exact ⟨a, e1⟩
  refine wpAny_comprehension_free rfl (hs p.env) (closure_is hcells) D.kind (fun x hx hl => ?_) (h0 p rfl hr W st s I i st1 e1 _ E fun W1 s1 It fp wr J x1 I1 T j hwr hfp => ?_)
  · have := List.all_eq_true.mp D.names x hx
    rw [hl] at this
    simpa using this
  refine newLob_ok (VRs.nil (W := W1)) W1 st1 s1 (Le.refl _) I1 (.lob st1.nl) ⟨st1.loc, st1.ins, pushL1 st1.nl [] st1.lst, st1.nl + 1⟩ (by simp [newLob]) _ E fun W2 acc s2 x2 I2 r2 => ?_
  unfold newFunctionEnv
  simp only [Option.isSome_some, if_true]
  refine wpAny_bind (wpAny_alloc ?_)
  refine wpAny_bind (wpAny_layCells _ (fun name kind cells => by cases hkc : kind == NameKind.cell <;> simp [hkc]) _ _ _ _ ?_)
  rw [List.forIn_nil]
  refine wpAny_bind (wpAny_pure (wpAny_pure ?_))
  have hsz : (s2.heap.push { cls := .type "dict", data := .dict #[] }).objs.size = s2.heap.objs.size + 1 := Heap.size_push ..
  have okc := cellsFrom_ok scope.names (s2.heap.push { cls := .type "dict", data := .dict #[] }) (s2.heap.objs.size + 1) [] ⟨fun _ _ hm => (nomatch hm), List.Pairwise.nil⟩ (by rw [hsz]; exact Nat.le_refl _)
  rw [hsz] at okc
  dsimp only
  rw [hsz, from_app]
  generalize hh1 : pushCells (s2.heap.push { cls := .type "dict", data := .dict #[] }) scope.names = h₁ at okc ⊢
  have hns0 : h₁.Ns s2.heap.objs.size (fun _ => .none) := by rw [← hh1]; exact (Heap.Ns.new s2.heap (.type "dict")).keeps (pushCells_keeps _ _)
  have k3 : ∀ b o, s2.heap.get? b = some o → h₁.get? b = some o := fun b o e => by rw [← hh1]; exact pushCells_keeps _ _ b o (Heap.get?_push_of_some _ e)
  generalize hCd : s2.heap.objs.size = C at hns0 okc ⊢
  have hCn : s2.heap.get? C = .none := get_none_of_ge (by rw [← hCd]; exact Nat.le_refl _)
  have hOn : ∀ y a, (y, a) ∈ ownC scope C → s2.heap.get? a = .none := fun y a q => get_none_of_ge (by have := (okc.empty y a q).2; rw [hCd]; exact Nat.le_of_succ_le this)
  have x12 := x1.trans x2
  have back : ∀ {a : Addr}, s2.heap.get? a = .none → s1.heap.get? a = .none := fun {a} h => by
    cases z : s1.heap.get? a with
    | none => rfl
    | some o => obtain ⟨o1, z1⟩ := x2.alive _ o z; rw [h] at z1; cases z1
  have back0 : ∀ {a : Addr}, s2.heap.get? a = .none → s.heap.get? a = .none := fun {a} h => by
    cases z : s.heap.get? a with
    | none => rfl
    | some o => obtain ⟨o1, z1⟩ := x12.alive _ o z; rw [h] at z1; cases z1
  have hCo : ¬ p.Own C := I2.fresh_own hCn
  have hCr : W2.role C = .oth := I2.hr.oth_of_none hCn
  have hCb : c.h0.get? C = .none := I2.hr.base_none hCn
  have hLC : p.env.locals ≠ C := fun q => hCo (.inl q.symm)
  have hcLt : ∀ y a, p.env.cells.lookup y = some a → @LT.lt Nat _ a C := fun y a q => by rw [← hCd]; exact I2.fr.cellLt q
  have hcC : ∀ y a, p.env.cells.lookup y = some a → a ≠ C := fun y a q => Nat.ne_of_lt (hcLt y a q)
  have x3 : Ext p.Own W2 s2 W2 { s2 with heap := h₁ } := Ext.keeps _ _ k3 rfl rfl
  have I3 : Inv c p W2 ⟨st1.loc, st1.ins, pushL1 st1.nl [] st1.lst, st1.nl + 1⟩ { s2 with heap := h₁ } := I2.keeps k3
  have F' := comp2_frame (p := p) (s := { s2 with heap := h₁ }) I3 D hCr hCb (fun _ => rfl) hns0 hcLt (fun y a q => ⟨(okc.empty y a q).1, (okc.empty y a q).2, I2.hr.oth_of_none (hOn y a q), I2.hr.base_none (hOn y a q)⟩) okc.apart
  have I' : Inv c (plC p scope tv cp C) W2 ⟨List.replicate tv.length .unb ++ capsL caps st1.loc, st1.ins, pushL1 st1.nl [] st1.lst, st1.nl + 1⟩ { s2 with heap := h₁ } := ⟨I3.hr.loc _, F'⟩
  have own' : ∀ a, (plC p scope tv cp C).Own a → s2.heap.get? a = .none := fun a q => by
    rcases q with q | q
    · have : a = C := q
      rw [this]; exact hCn
    · obtain ⟨x, hx, z⟩ := List.mem_filterMap.mp q
      exact hOn x a (mem_of_lookup z)
  have j3 := T.frame p.Own i W1 W2 st1 ⟨List.replicate tv.length .unb ++ capsL caps st1.loc, st1.ins, pushL1 st1.nl [] st1.lst, st1.nl + 1⟩ s1 { s2 with heap := h₁ } hfp j I1.hr (x2.trans x3) I'.hr
  have wrA : ∀ b ∈ wr, ∃ o, s1.heap.get? b = some o := fun b hb => let ⟨_, o, q⟩ := T.wrOk i W1 st1 s1.heap j b hb; ⟨o, q⟩
  have wrL : ∀ b ∈ wr, b ≠ p.env.locals := fun b hb q => by
    obtain ⟨ml, ⟨o1, es, ep, ho, _⟩, _⟩ := I.fr.ns
    rw [← q, hwr b hb] at ho; cases ho
  have wrC : ∀ b ∈ wr, ∀ y, p.env.cells.lookup y ≠ some b := fun b hb y q => by
    obtain ⟨v', o1, ho, _⟩ := I.fr.cells y b q
    rw [hwr b hb] at ho; cases ho
  have dead : ∀ b o, s1.heap.get? b = some o → s2.heap.get? b ≠ .none := fun b o q z => by rw [back z] at q; cases q
  have oL : ¬ (plC p scope tv cp C).Own p.env.locals := fun q => by
    obtain ⟨ml, ⟨o1, es, ep, ho, _⟩, _⟩ := I2.fr.ns
    rw [own' _ q] at ho; cases ho
  have oC : ∀ y a, p.env.cells.lookup y = some a → ¬ (plC p scope tv cp C).Own a := fun y a q z => by
    obtain ⟨v, o, ho, _⟩ := I2.fr.cells y a q
    rw [own' _ z] at ho; cases ho
  have loop : codeAny (model c.prog c.w) (plC p scope tv cp C).A (.compLoop (.ListComp elt (⟨target, iter, ifs, 0⟩ :: rest) scope pos) 0 (.ref It) acc (plC p scope tv cp C).env) (compPost (model c.prog c.w) p.A E use Q acc C) { s2 with heap := h₁ } := by
    refine clo_loop (p := plC p scope tv cp C) T (fun b hb q => ?_) hr (hturn _ _ _) hg h1 ht (fun W hK => h2 (plC p scope tv cp C) rfl hr W acc st1.nl hK) (fun b hb => I.hr.base_none (hwr b hb)) (fun b hb q => ?_) (fun b hb y q => ?_)
      (Φ := fun W' s' => Ext (fun a => p.Own a ∨ s2.heap.get? a = .none) W s W' s' ∧ FrV c p W' st1.loc s'.heap) ⟨fun _ _ _ _ x y => ⟨x.1.trans (y.weaken fun a q => .inr (own' a q)), x.2.ext y oL oC⟩, fun _ _ _ _ _ x H k hN => ⟨x.1.pokeW H hwr k hN, x.2.pokeW H wrL wrC k hN⟩⟩
      I' ⟨(x12.trans x3).weaken fun _ q => .inl q, I3.fr⟩ r2 j3 he2 fun W' s' ph Iv' hK' => ?_
    · obtain ⟨o, z⟩ := T.alive i W1 st1 s1.heap j b hb
      exact dead b o z (own' b q)
    · obtain ⟨o, z⟩ := wrA b hb
      have : b = C := q
      rw [this] at z
      exact dead C o z hCn
    · have q' : (ownC scope C ++ clC p scope).lookup y = some b := q
      rw [look_app] at q'
      cases w : (ownC scope C).lookup y with
      | some b' =>
        rw [w] at q'
        cases q'
        obtain ⟨o, z⟩ := wrA b hb
        exact dead b o z (hOn y b (mem_of_lookup w))
      | none =>
        rw [w] at q'
        rcases closeL_mem (mem_of_lookup q') with z | z
        · cases z
        · exact wrC b hb y z
    · obtain ⟨ml, hn', _⟩ := Iv'.fr.ns
      exact hEnd W' acc s' C (fun a => s2.heap.get? a = .none) (fun a h => back0 h) (back0 hCn) hCo Iv'.fr.roleL hCb ⟨ml, hn'⟩ hcC hLC ph.1 ⟨Iv'.hr.loc _, ph.2⟩ hK'
  exact codeAny_compStart_list loop (T.self i W2 _ _ j3 _ _ loop)
theorem ImplE.compN {σ : Type} {gt : Expr → Bool} {f : Cm σ} {size : σ → AS → Nat} {nx : σ → AS → Option (Option (AV × σ))} {tgt : AV → Cm Unit} {ft : Cm Bool} {fm : Nat → Cm Unit} {elt target iter : Expr} {ifs : List Expr} {rest : List Comprehension} {em : Value → Env → Sem Unit} {scope : Scope} {pos : Pos} {tv cp : List Str} {caps : List Nat}
    (D : Comp2Is sx scope tv cp caps) (h0 : ImplI c n sx iter gt f nx) (h1 : ImplA c n (sxC sx scope tv cp) target tgt) (ht : ImplC c n (sxC sx scope tv cp) ifs ft) (h2 : ImplM c n (sxC sx scope tv cp) em fm)
    (hturn : ∀ it acc env, compTurn (.ListComp elt (⟨target, iter, ifs, 0⟩ :: rest) scope pos) 0 it acc env = turnForm target iter ifs em (.ListComp elt (⟨target, iter, ifs, 0⟩ :: rest) scope pos) 0 it acc env) (hg : gt target = true := by rfl) (hs : ∀ env x, foldedSetIterable iter env x = pure x := by intro _ _; rfl) :
    ImplE c n sx (.ListComp elt (⟨target, iter, ifs, 0⟩ :: rest) scope pos) (compN tv.length caps f size nx tgt ft fm) := by
  intro p hsx hr W0 W st s hle I b st' e Q E hQ
  rw [eval_ListComp]
  refine comp3_core D hturn h0 h1 ht h2 hg hs hsx hr I e fun W' acc s' C new q0 q1 q2 q3 q4 q5 q6 q7 x' I' r' => ?_
  obtain ⟨m, q5⟩ := q5
  refine ⟨m, q5, fun h' hsb => ?_⟩
  obtain ⟨x2, I2⟩ := comp2_out q0 q1 q3 q4 q6 q7 x' I' hsb
  exact hQ W' acc _ x2 I2 r'
theorem ImplS1.assignCompN {σ : Type} {gt : Expr → Bool} {f : Cm σ} {size : σ → AS → Nat} {nx : σ → AS → Option (Option (AV × σ))} {tgt : AV → Cm Unit} {ft : Cm Bool} {fm : Nat → Cm Unit} {elt target iter : Expr} {ifs : List Expr} {rest : List Comprehension} {em : Value → Env → Sem Unit} {scope : Scope} {pos spos py : Pos} {tv cp : List Str} {caps : List Nat} {y : Str} {i : Nat}
    (D : Comp2Is sx scope tv cp caps) (h0 : ImplI c n sx iter gt f nx) (h1 : ImplA c n (sxC sx scope tv cp) target tgt) (ht : ImplC c n (sxC sx scope tv cp) ifs ft) (h2 : ImplM c n (sxC sx scope tv cp) em fm)
    (hturn : ∀ it acc env, compTurn (.ListComp elt (⟨target, iter, ifs, 0⟩ :: rest) scope pos) 0 it acc env = turnForm target iter ifs em (.ListComp elt (⟨target, iter, ifs, 0⟩ :: rest) scope pos) 0 it acc env) (hi : sx.vars[i]? = some y) (hw : sx.wr[i]? = some y)
    (hsw : swapsWith (.ListComp elt (⟨target, iter, ifs, 0⟩ :: rest) scope pos) (some (.Name y py)) spos.line (envS sx.sc) = pure true := by rfl) (hg : gt target = true := by rfl) (hs : ∀ env x, foldedSetIterable iter env x = pure x := by intro _ _; rfl) :
    ImplS1 c n sx (.Assign [.Name y py] (.ListComp elt (⟨target, iter, ifs, 0⟩ :: rest) scope pos) spos) (asgM (compN tv.length caps f size nx tgt ft fm) (setV i)) := by
  intro p hsx hr W0 W st s hle I b st' e Q E hQ
  obtain ⟨v, st1, e1, e2⟩ := bd_some e
  obtain ⟨u, st2, e3, e4⟩ := bd_some e2
  cases e4
  have hsc : p.env.scope = sx.sc := by rw [I.fr.scope, hsx]
  rw [exec_Assign_Name_used _ _ _ _ (by rw [swaps1_static hsc]; exact hsw)]
  refine wpAny_bind (wpAny_standAt (wpAny_bind ?_))
  show wpAny _ p.A (do let _ ← comprehension (.ListComp elt (⟨target, iter, ifs, 0⟩ :: rest) scope pos) scope p.env _ (newList []) false (eval iter p.env) (some (PySem.assign (Expr.Name y py) p.env))) _ _ s
  refine wpAny_bind (wpAny_mono (comp3_core (use := some (PySem.assign (Expr.Name y py) p.env)) (Q := fun _ s' => Q .next s') (E := E) D hturn h0 h1 ht h2 hg hs hsx hr I e1 fun W' acc s' C new q0 q1 q2 q3 q4 q5 q6 q7 x' I' r' => ?_) (fun _ s' hq => wpAny_pure (wpAny_pure hq)) fun _ _ q => q)
  obtain ⟨m, q5⟩ := q5
  show wpAny _ _ (PySem.assign (Expr.Name y py) p.env acc) _ E s'
  refine ImplA.name (n := n) hi hw p hsx hr W' acc v r' W' st1 s' (Le.refl _) I' u st' e3 _ E fun W2 _ s2 x2 I2 _ => ?_
  have kC : ∀ o, s'.heap.get? C = some o → s2.heap.get? C = some o := fun o q => x2.kept C o (by unfold Wd.Mut; rw [q3]; exact fun z => z) q2 q
  refine ⟨m, q5.at' kC, fun h' hsb => ?_⟩
  obtain ⟨o, _, _, ho, _⟩ := q5
  obtain ⟨x3, I3⟩ := comp2_out (c := c) q0 q1 (x2.oth C o ho q3) q4 q6 q7 (x'.trans (x2.weaken fun _ q => .inl q)) I2 hsb
  exact hQ W2 .next _ x3 I3 .next
end
end Mine

namespace Mine

noncomputable def kx {O : KeyOrd} (key : Value → O.α) (xs : Array Keyed) (i : Nat) : O.α := match xs[i]? with
  | some p => key p.1
  | .none => key .none
section
variable {O : KeyOrd} {key : Value → O.α} {xs ys : Array Keyed} {i j k l m n q x r : Nat}
theorem kx_congr (h : xs[i]? = ys[j]?) : kx key xs i = kx key ys j := by unfold kx; rw [h]
noncomputable def Up (O : KeyOrd) (key : Value → O.α) (xs : Array Keyed) (n : Nat) : Prop := ∀ i j, i ≤ j → j < n → O.kle (kx key xs i) (kx key xs j)
noncomputable def Dn (O : KeyOrd) (key : Value → O.α) (xs : Array Keyed) (n : Nat) : Prop := ∀ i j, i ≤ j → j < n → O.kle (kx key xs j) (kx key xs i)
theorem kx_mirror (hj : j ≤ xs.size) (k : Nat) : kx key (mirror xs i j ((j - i) / 2)) k = if i ≤ k ∧ k < j then kx key xs (i + j - 1 - k) else kx key xs k := by
  have e := getElem?_mirror_all (i := i) hj k
  split at e
  · rename_i h; rw [if_pos h]; exact kx_congr e
  · rename_i h; rw [if_neg h]; exact kx_congr e
theorem ar1 (h1 : i ≤ k) (h2 : k < j) : i ≤ i + j - 1 - k ∧ i + j - 1 - k < j := by omega
theorem mirror_eq (hj : j ≤ xs.size) (h : ∀ k, i ≤ k → k < j → kx key xs k = kx key xs (j - 1)) (k : Nat) : kx key (mirror xs i j ((j - i) / 2)) k = kx key xs k := by
  rw [kx_mirror hj]
  split
  · rename_i z
    obtain ⟨z1, z2⟩ := ar1 z.1 z.2
    rw [h _ z1 z2, h k z.1 z.2]
  · rfl
theorem Dn.eqs (h : Dn O key xs n) (e : ∀ k, kx key ys k = kx key xs k) : Dn O key ys n := fun i j h1 h2 => by rw [e, e]; exact h i j h1 h2
theorem ar2 (h : i < n) : n - 1 - i < n := by omega
theorem Dn.rev (h : Dn O key xs n) (hn : n ≤ xs.size) : Up O key (mirror xs 0 n ((n - 0) / 2)) n := fun i j h1 h2 => by
  have e : ∀ k, k < n → kx key (mirror xs 0 n ((n - 0) / 2)) k = kx key xs (n - 1 - k) := fun k hk => by
    rw [kx_mirror hn, if_pos ⟨Nat.zero_le _, hk⟩, Nat.zero_add]
  rw [e i (Nat.lt_of_le_of_lt h1 h2), e j h2]
  exact h _ _ (Nat.sub_le_sub_left h1 _) (ar2 (Nat.lt_of_le_of_lt h1 h2))
theorem ar3 (h1 : j < n + 1) (h2 : ¬ j < n) : j = n := by omega
theorem ar4 (h1 : i ≤ n) (h2 : i ≠ n) : i ≤ n - 1 ∧ n - 1 < n := by omega
theorem Up.snoc (h : Up O key xs n) (q : O.kle (kx key xs (n - 1)) (kx key xs n)) : Up O key xs (n + 1) := fun i j hij hj => by
  by_cases hjx : j < n
  · exact h i j hij hjx
  · obtain rfl := ar3 hj hjx
    by_cases hi : i = j
    · subst hi; exact KeyOrd.kle_refl _
    · exact KeyOrd.kle_trans (h i (j - 1) (ar4 hij hi).1 (ar4 hij hi).2) q
theorem Dn.snoc (h : Dn O key xs n) (q : O.kle (kx key xs n) (kx key xs (n - 1))) : Dn O key xs (n + 1) := fun i j hij hj => by
  by_cases hjx : j < n
  · exact h i j hij hjx
  · obtain rfl := ar3 hj hjx
    by_cases hi : i = j
    · subst hi; exact KeyOrd.kle_refl _
    · exact KeyOrd.kle_trans q (h i (j - 1) (ar4 hij hi).1 (ar4 hij hi).2)
theorem Up.one : Up O key xs 1 := fun i j hij hj => by
  obtain rfl := ar3 hj (Nat.not_lt_zero _)
  obtain rfl := Nat.le_zero.mp hij
  exact KeyOrd.kle_refl _
theorem Dn.one : Dn O key xs 1 := fun i j hij hj => by
  obtain rfl := ar3 hj (Nat.not_lt_zero _)
  obtain rfl := Nat.le_zero.mp hij
  exact KeyOrd.kle_refl _
theorem kx_bubble (hs : k < xs.size) (hl : l ≤ k) (i : Nat) : kx key (bubble xs k (k - l)) i = if i = l then kx key xs k else if l < i ∧ i ≤ k then kx key xs (i - 1) else kx key xs i := by
  have e := getElem?_bubble hs (k - l) (Nat.sub_le _ _) i
  rw [Nat.sub_sub_self hl] at e
  split at e
  · rename_i h; rw [if_pos h]; exact kx_congr e
  · rename_i h
    rw [if_neg h]
    split at e
    · rename_i h2; rw [if_pos h2]; exact kx_congr e
    · rename_i h2; rw [if_neg h2]; exact kx_congr e
theorem ar5 (h : i < l) (hl : l ≤ k) : i ≠ l ∧ ¬ (l < i ∧ i ≤ k) ∧ i < k := by omega
theorem ar6 (h : ¬ i < l) (h2 : i ≠ l) (h3 : i < k + 1) : (l < i ∧ i ≤ k) ∧ l ≤ i - 1 ∧ i - 1 < k := by omega
theorem ar7 (h : i < l) (h2 : l ≤ j) : i ≤ j := by omega
theorem Up.ins (hl : l ≤ k) (e : ∀ i, kx key ys i = if i = l then kx key xs k else if l < i ∧ i ≤ k then kx key xs (i - 1) else kx key xs i) (hu : Up O key xs k) (h1 : ∀ i, i < l → O.kle (kx key xs i) (kx key xs k)) (h2 : ∀ i, l ≤ i → i < k → O.klt (kx key xs k) (kx key xs i)) : Up O key ys (k + 1) := fun i j hij hj => by
  rw [e, e]
  by_cases i1 : i < l
  · rw [if_neg (ar5 i1 hl).1, if_neg (ar5 i1 hl).2.1]
    by_cases j1 : j < l
    · rw [if_neg (ar5 j1 hl).1, if_neg (ar5 j1 hl).2.1]; exact hu _ _ hij (ar5 j1 hl).2.2
    · by_cases j2 : j = l
      · rw [if_pos j2]; exact h1 _ i1
      · obtain ⟨q1, q2, q3⟩ := ar6 j1 j2 hj
        rw [if_neg j2, if_pos q1]; exact hu _ _ (ar7 i1 q2) q3
  · have j1 : ¬ j < l := fun z => i1 (Nat.lt_of_le_of_lt hij z)
    by_cases i2 : i = l
    · rw [if_pos i2]
      by_cases j2 : j = l
      · rw [if_pos j2]; exact KeyOrd.kle_refl _
      · obtain ⟨q1, q2, q3⟩ := ar6 j1 j2 hj
        rw [if_neg j2, if_pos q1]; exact KeyOrd.kle_of_klt (h2 _ q2 q3)
    · have j2 : j ≠ l := fun z => i2 (Nat.le_antisymm (z ▸ hij) (Nat.not_lt.mp i1))
      obtain ⟨q1, q2, q3⟩ := ar6 j1 j2 hj
      rw [if_neg i2, if_pos (ar6 i1 i2 (Nat.lt_of_le_of_lt hij hj)).1, if_neg j2, if_pos q1]
      exact hu _ _ (Nat.sub_le_sub_right hij 1) q3
theorem ar8 (h : ¬ l ≥ r) : l ≤ (l + r) / 2 ∧ (l + r) / 2 < r := by omega
theorem ar9 (h1 : m < r) (h2 : r + x ≤ k + l) : m + (x + 1) ≤ k + l := by omega
theorem ar10 (h1 : l ≤ m) (h2 : r + x ≤ k + l) : r + (x + 1) ≤ k + (m + 1) := by omega
theorem ar11 (h1 : l ≤ r) (h2 : r + max 0 k ≤ k + l) : l = r := by omega
theorem ar12 (h : x + 1 - (q + 1 + 1) ≤ i) : x - (q + 1) ≤ i := by omega
theorem ar13 (h1 : i < x + 1) (h2 : i ≠ x) : i < x := by omega
end

section
variable {prog : Program} {w : World} {A : Around} {E : Value → Shared → Prop} {s : Shared}
noncomputable def Cmps (prog : Program) (w : World) (A : Around) (E : Value → Shared → Prop) (s : Shared) (O : KeyOrd) (key : Value → O.α) (kd : SortKind) (a₀ : Array Keyed) : Prop :=
  ∀ x y : Keyed, x ∈ a₀.toList → y ∈ a₀.toList → ∀ (st : SortSt) (Q : Option Bool → SortSt → Prop), kindOf st = kd → Q (some (O.blt (key x.1) (key y.1))) st → wpS (model prog w) A E s (lt' x y) Q st
structure SB (a₀ : Array Keyed) (kd : SortKind) (st : SortSt) : Prop where
  perm : (arrOf st).Perm a₀
  kind : kindOf st = kd
  failed : failedOf st = none
  pend : pendingOf st = #[]
variable {O : KeyOrd} {key : Value → O.α} {kd : SortKind} {a₀ : Array Keyed} {st : SortSt} {m n i j : Nat}
theorem SB.size (B : SB a₀ kd st) : (arrOf st).size = a₀.size := B.perm.size_eq
theorem SB.set (B : SB a₀ kd st) {xs : Array Keyed} (hp : xs.Perm (arrOf st)) : SB a₀ kd (setArr st xs) := ⟨hp.trans B.perm, B.kind, B.failed, B.pend⟩
theorem SB.mem (B : SB a₀ kd st) (hi : i < a₀.size) : ∃ x, (arrOf st)[i]? = some x ∧ x ∈ a₀.toList ∧ kx key (arrOf st) i = key x.1 := by
  have hi' : i < (arrOf st).size := by rw [B.size]; exact hi
  have e : (arrOf st)[i]? = some (arrOf st)[i] := getElem?_pos _ i hi'
  refine ⟨_, e, (Array.perm_iff_toList_perm.mp B.perm).mem_iff.mp (by simp), ?_⟩
  unfold kx; rw [e]
theorem ltAt_ok (C : Cmps prog w A E s O key kd a₀) (B : SB a₀ kd st) {Q : Option Bool → SortSt → Prop} (hi : i < a₀.size) (hj : j < a₀.size) (h : Q (some (O.blt (kx key (arrOf st) i) (kx key (arrOf st) j))) st) :
    wpS (model prog w) A E s (ltAt' i j) Q st := by
  obtain ⟨x, e1, m1, k1⟩ := B.mem (key := key) hi
  obtain ⟨y, e2, m2, k2⟩ := B.mem (key := key) hj
  rw [k1, k2] at h
  rw [ltAt'_eq]
  refine wpS_bind (wpS_get ?_)
  show wpS _ _ _ _ (do let x ← elem' (arrOf st) i; let y ← elem' (arrOf st) j; lt' x y) Q st
  rw [elem'_eq, elem'_eq, e1, e2]
  exact wpS_bind (wpS_pure (wpS_bind (wpS_pure (C x y m1 m2 st Q B.kind h))))
theorem rev_ok {Q : Unit → SortSt → Prop} (h : Q () (setArr st (mirror (arrOf st) i j ((j - i) / 2)))) : wpS (model prog w) A E s (reverseSlice' i j) Q st := by
  rw [reverseSlice'_eq]; exact wpS_modify h
theorem asc_ok (C : Cmps prog w A E s O key kd a₀) {a : Nat} {Q : AscSt → SortSt → Prop} (B : SB a₀ kd st) (hm : m ≤ a₀.size) (ha : 1 ≤ a) (ham : a ≤ m) (hs : Up O key (arrOf st) a)
    (h : ∀ n, 1 ≤ n → n ≤ m → Up O key (arrOf st) n → (n = m ∨ n < m ∧ O.klt (kx key (arrOf st) n) (kx key (arrOf st) (n - 1))) → Q (none, n) st) : wpS (model prog w) A E s (ascLoop a m) Q st := by
  unfold ascLoop
  refine wpS_forRange (I := fun x c st' => st' = st ∧ c = (none, x) ∧ Up O key (arrOf st) x) (fun x c st' hax hxm hI => ?_) (fun c st' hI => ?_) ⟨rfl, rfl, hs⟩
  · obtain ⟨rfl, rfl, hu⟩ := hI
    have hx := Nat.lt_of_lt_of_le hxm hm
    dsimp only
    refine wpS_bind (ltAt_ok C B hx (Nat.lt_of_le_of_lt (Nat.sub_le _ _) hx) ?_)
    cases q : O.blt (kx key (arrOf st') x) (kx key (arrOf st') (x - 1)) with
    | true => exact wpS_pure (h x (Nat.le_trans ha hax) (Nat.le_of_lt hxm) hu (.inr ⟨hxm, q⟩))
    | false => exact wpS_pure ⟨rfl, rfl, hu.snoc q⟩
  · obtain ⟨rfl, rfl, hu⟩ := hI
    rw [Nat.max_eq_right ham] at hu ⊢
    exact h m (Nat.le_trans ha ham) (Nat.le_refl _) hu (.inl rfl)
noncomputable def Run (O : KeyOrd) (key : Value → O.α) (kd : SortKind) (a₀ : Array Keyed) (m : Nat) (Q : Option Nat → SortSt → Prop) : Prop := ∀ k st', SB a₀ kd st' → 1 ≤ k → k ≤ m → Up O key (arrOf st') k → Q (some k) st'
theorem fin_ok (C : Cmps prog w A E s O key kd a₀) {Q : Option Nat → SortSt → Prop} (B : SB a₀ kd st) (hm : m ≤ a₀.size) (h1 : 1 ≤ n) (hnm : n ≤ m) (hs : Dn O key (arrOf st) n) (h : Run O key kd a₀ m Q) : wpS (model prog w) A E s (tail3 n m) Q st := by
  unfold tail3
  have B' := B.set (mirror_perm (arrOf st) 0 n ((n - 0) / 2))
  exact wpS_bind (rev_ok (wpS_bind (asc_ok C B' hm h1 hnm (hs.rev (by rw [B.size]; exact Nat.le_trans hnm hm)) fun k hk1 hk2 hu _ => wpS_pure (h k _ B' hk1 hk2 hu))))
theorem des_ok (C : Cmps prog w A E s O key kd a₀) {Q : DescSt → SortSt → Prop} (B : SB a₀ kd st) (hm : m ≤ a₀.size) (h1 : 1 ≤ n) (hnm : n ≤ m) (hs : Dn O key (arrOf st) n)
    (h : ∀ k q st', SB a₀ kd st' → 1 ≤ k → k ≤ m → Dn O key (arrOf st') k → (∀ i, k - (q + 1) ≤ i → i < k → kx key (arrOf st') i = kx key (arrOf st') (k - 1)) → Q (none, k, q) st') : wpS (model prog w) A E s (descLoop n m) Q st := by
  unfold descLoop
  obtain ⟨P, hP⟩ : ∃ P : Nat → DescSt → SortSt → Prop, ∀ x c st', P x c st' ↔ ∃ q, c = (none, x, q) ∧ SB a₀ kd st' ∧ Dn O key (arrOf st') x ∧ (∀ i, x - (q + 1) ≤ i → i < x → kx key (arrOf st') i = kx key (arrOf st') (x - 1)) := ⟨_, fun _ _ _ => Iff.rfl⟩
  have zero : ∀ (xs : Array Keyed) (x i : Nat), x - (0 + 1) ≤ i → i < x → kx key xs i = kx key xs (x - 1) := fun xs x i h1 h2 => by rw [Nat.le_antisymm (Nat.le_sub_one_of_lt h2) h1]
  refine wpS_forRange (I := P) (fun x c st' hax hxm hI => ?_) (fun c st' hI => ?_) ((hP _ _ _).mpr ⟨0, rfl, B, hs, zero _ _⟩)
  · obtain ⟨q, rfl, B', hd, he⟩ := (hP _ _ _).mp hI
    have hx := Nat.lt_of_lt_of_le hxm hm
    have hx' := Nat.lt_of_le_of_lt (Nat.sub_le x 1) hx
    have hsz : x ≤ (arrOf st').size := by rw [B'.size]; exact Nat.le_of_lt hx
    dsimp only
    refine wpS_bind (ltAt_ok C B' hx hx' ?_)
    cases less : O.blt (kx key (arrOf st') x) (kx key (arrOf st') (x - 1)) with
    | true =>
      simp only [if_true]
      have hd' : Dn O key (arrOf st') (x + 1) := hd.snoc (KeyOrd.kle_of_klt less)
      by_cases hq0 : q > 0
      · rw [if_pos hq0]
        exact wpS_bind (rev_ok (wpS_pure ((hP _ _ _).mpr ⟨0, rfl, B'.set (mirror_perm _ _ _ _), hd'.eqs (mirror_eq hsz he), zero _ _⟩)))
      · rw [if_neg hq0]
        exact wpS_pure ((hP _ _ _).mpr ⟨0, rfl, B', hd', zero _ _⟩)
    | false =>
      simp only [Bool.false_eq_true, if_false]
      refine wpS_bind (ltAt_ok C B' hx' hx ?_)
      cases more : O.blt (kx key (arrOf st') (x - 1)) (kx key (arrOf st') x) with
      | true => exact wpS_pure (h x q st' B' (Nat.le_trans h1 hax) (Nat.le_of_lt hxm) hd he)
      | false =>
        have eqx : kx key (arrOf st') x = kx key (arrOf st') (x - 1) := KeyOrd.kle_antisymm more less
        refine wpS_pure ((hP _ _ _).mpr ⟨q + 1, rfl, B', hd.snoc (by rw [eqx]; exact KeyOrd.kle_refl _), fun i h1 h2 => ?_⟩)
        show kx key (arrOf st') i = kx key (arrOf st') x
        by_cases hix : i = x
        · rw [hix]
        · rw [eqx]; exact he i (ar12 h1) (ar13 h2 hix)
  · obtain ⟨q, rfl, B', hd, he⟩ := (hP _ _ _).mp hI
    rw [Nat.max_eq_right hnm] at hd he ⊢
    exact h m q st' B' (Nat.le_trans h1 hnm) (Nat.le_refl _) hd he
theorem desP_ok (C : Cmps prog w A E s O key kd a₀) {Q : Option Nat → SortSt → Prop} (B : SB a₀ kd st) (hm : m ≤ a₀.size) (hnm : n + 1 ≤ m) (hs : Dn O key (arrOf st) (n + 1)) (h : Run O key kd a₀ m Q) : wpS (model prog w) A E s (descPart n m) Q st := by
  unfold descPart
  refine wpS_bind (wpS_lift (wpAny_rule ⟨rfl, ?_⟩))
  refine wpS_bind (des_ok C B hm (Nat.succ_pos n) hnm hs fun k q st' B' hk1 hk2 hd he => ?_)
  dsimp only
  by_cases hq0 : q > 0
  · rw [if_pos hq0]
    exact wpS_bind (rev_ok (fin_ok C (B'.set (mirror_perm _ _ _ _)) hm hk1 hk2 (hd.eqs (mirror_eq (by rw [B'.size]; exact Nat.le_trans hk2 hm) he)) h))
  · rw [if_neg hq0]
    exact fin_ok C B' hm hk1 hk2 hd h
theorem run_ok (C : Cmps prog w A E s O key kd a₀) {Q : Option Nat → SortSt → Prop} (B : SB a₀ kd st) (hm : m ≤ a₀.size) (h1 : 1 ≤ m) (h : Run O key kd a₀ m Q) : wpS (model prog w) A E s (countRun' 0 m) Q st := by
  rw [countRun0_eq]
  refine wpS_bind (asc_ok C B hm (Nat.le_refl 1) h1 Up.one fun n hn1 hn2 hu hor => ?_)
  dsimp only
  by_cases hnm : n = m
  · rw [if_pos (beq_iff_eq.mpr hnm)]
    exact wpS_pure (h n st B hn1 hn2 hu)
  · rw [if_neg (fun z => hnm (beq_iff_eq.mp z))]
    obtain ⟨hlt, hk⟩ := hor.resolve_left hnm
    have hsz : n ≤ (arrOf st).size := by rw [B.size]; exact Nat.le_trans hn2 hm
    by_cases hgt : n > 1
    · rw [if_pos hgt]
      have hna := Nat.lt_of_lt_of_le hlt hm
      have hn' := Nat.lt_of_le_of_lt (Nat.sub_le n 1) hna
      refine wpS_bind (ltAt_ok C B (Nat.lt_of_le_of_lt (Nat.zero_le n) hna) hn' ?_)
      cases rose : O.blt (kx key (arrOf st) 0) (kx key (arrOf st) (n - 1)) with
      | true => exact wpS_pure (h n st B hn1 hn2 hu)
      | false =>
        have all : ∀ k, 0 ≤ k → k < n → kx key (arrOf st) k = kx key (arrOf st) (n - 1) := fun k _ hk =>
          KeyOrd.kle_antisymm (hu k (n - 1) (Nat.le_sub_one_of_lt hk) (Nat.sub_lt hn1 Nat.one_pos)) (KeyOrd.kle_trans rose (hu 0 k (Nat.zero_le _) hk))
        have hd : Dn O key (arrOf st) (n + 1) := Dn.snoc (fun i j hij hj => by rw [all j (Nat.zero_le _) hj, all i (Nat.zero_le _) (Nat.lt_of_le_of_lt hij hj)]; exact KeyOrd.kle_refl _) (KeyOrd.kle_of_klt hk)
        exact wpS_bind (rev_ok (desP_ok C (B.set (mirror_perm _ _ _ _)) hm hlt (hd.eqs (mirror_eq hsz all)) h))
    · rw [if_neg hgt]
      obtain rfl : n = 1 := Nat.le_antisymm (Nat.not_lt.mp hgt) hn1
      exact desP_ok C B hm hlt (Dn.one.snoc (KeyOrd.kle_of_klt hk)) h
theorem ins_ok (C : Cmps prog w A E s O key kd a₀) {ok : Nat} {Q : Bool → SortSt → Prop} (B : SB a₀ kd st) (hn : n ≤ a₀.size) (hok : ok ≤ n) (h1o : 1 ≤ ok) (hs : Up O key (arrOf st) ok)
    (h : ∀ st', SB a₀ kd st' → Up O key (arrOf st') n → Q true st') : wpS (model prog w) A E s (binarySort' 0 n ok) Q st := by
  rw [binarySort'_eq]
  simp only [Nat.zero_add]
  rw [Nat.max_eq_left h1o]
  obtain ⟨P, hP⟩ : ∃ P : Nat → Option Bool × Unit → SortSt → Prop, ∀ x c st', P x c st' ↔ c = (none, ()) ∧ SB a₀ kd st' ∧ Up O key (arrOf st') x := ⟨_, fun _ _ _ => Iff.rfl⟩
  refine wpS_bind (wpS_mono (wpS_forRange (I := P) (Q := P n) (fun k c st' _ hkn hI => ?_) (fun c st' hI => ?_) ((hP _ _ _).mpr ⟨rfl, B, hs⟩)) fun c st' hI => ?_)
  · obtain ⟨rfl, B', hu⟩ := (hP _ _ _).mp hI
    have hk := Nat.lt_of_lt_of_le hkn hn
    have hks : k < (arrOf st').size := by rw [B'.size]; exact hk
    obtain ⟨J, hJ⟩ : ∃ J : Nat → Option Bool × Nat × Nat → SortSt → Prop, ∀ x c st'', J x c st'' ↔ st'' = st' ∧ ∃ l r, c = (none, l, r) ∧ l ≤ r ∧ r ≤ k ∧ r + x ≤ k + l ∧
        (∀ i, i < l → O.kle (kx key (arrOf st') i) (kx key (arrOf st') k)) ∧ (∀ i, r ≤ i → i < k → O.klt (kx key (arrOf st') k) (kx key (arrOf st') i)) := ⟨_, fun _ _ _ => Iff.rfl⟩
    obtain ⟨F, hF⟩ : ∃ F : Option Bool × Nat × Nat → SortSt → Prop, ∀ c st'', F c st'' ↔ st'' = st' ∧ ∃ l r, c = (none, l, r) ∧ l ≤ k ∧
        (∀ i, i < l → O.kle (kx key (arrOf st') i) (kx key (arrOf st') k)) ∧ (∀ i, l ≤ i → i < k → O.klt (kx key (arrOf st') k) (kx key (arrOf st') i)) := ⟨_, fun _ _ => Iff.rfl⟩
    refine wpS_bind (wpS_mono (wpS_forRange (I := J) (Q := F) (fun x c st'' _ _ hj => ?_) (fun c st'' hj => ?_) ((hJ _ _ _).mpr ⟨rfl, 0, k, rfl, Nat.zero_le _, Nat.le_refl _, Nat.le_refl _, fun i hi => absurd hi (Nat.not_lt_zero _), fun i h1 h2 => absurd h2 (Nat.not_lt.mpr h1)⟩)) fun c st'' hj => ?_)
    · obtain ⟨rfl, l, r, rfl, hlr, hrk, hm, h1, h2⟩ := (hJ _ _ _).mp hj
      dsimp only
      by_cases hge : l ≥ r
      · rw [if_pos hge]
        obtain rfl : l = r := Nat.le_antisymm hlr hge
        exact wpS_pure ((hF _ _).mpr ⟨rfl, l, l, rfl, hrk, h1, h2⟩)
      · rw [if_neg hge]
        obtain ⟨a1, a2⟩ := ar8 hge
        have a3 := Nat.lt_of_lt_of_le a2 hrk
        refine wpS_bind (ltAt_ok C B' hk (Nat.lt_trans a3 hk) ?_)
        cases less : O.blt (kx key (arrOf st'') k) (kx key (arrOf st'') ((l + r) / 2)) with
        | true => exact wpS_pure ((hJ _ _ _).mpr ⟨rfl, l, (l + r) / 2, rfl, a1, Nat.le_of_lt a3, ar9 a2 hm, h1, fun i q1 q2 => KeyOrd.klt_of_klt_of_kle less (hu _ _ q1 q2)⟩)
        | false => exact wpS_pure ((hJ _ _ _).mpr ⟨rfl, (l + r) / 2 + 1, r, rfl, a2, hrk, ar10 a1 hm, fun i q1 => KeyOrd.kle_trans (hu i ((l + r) / 2) (Nat.le_of_lt_succ q1) a3) less, h2⟩)
    · obtain ⟨rfl, l, r, rfl, hlr, hrk, hm, h1, h2⟩ := (hJ _ _ _).mp hj
      obtain rfl := ar11 hlr hm
      exact (hF _ _).mpr ⟨rfl, l, l, rfl, hrk, h1, h2⟩
    · obtain ⟨rfl, l, r, rfl, hlk, h1, h2⟩ := (hF _ _).mp hj
      show wpS _ _ _ _ (do moveDown' k l; pure (ForInStep.yield (none, ()))) _ _
      rw [moveDown'_eq]
      exact wpS_bind (wpS_modify (wpS_pure ((hP _ _ _).mpr ⟨rfl, B'.set (bubble_perm _ _ _), hu.ins hlk (kx_bubble hks hlk) h1 h2⟩)))
  · rw [Nat.max_eq_right hok] at hI
    exact hI
  · obtain ⟨rfl, B', hu⟩ := (hP _ _ _).mp hI
    exact wpS_pure (h st' B' hu)
theorem runs_ok (C : Cmps prog w A E s O key kd a₀) {Q : Unit → SortSt → Prop} (B : SB a₀ kd st) (h2 : 2 ≤ a₀.size) (h64 : a₀.size < 64)
    (h : ∀ st', (arrOf st').Perm a₀ → failedOf st' = none → Up O key (arrOf st') a₀.size → Q () st') : wpS (model prog w) A E s sortRuns' Q st := by
  rw [sortRuns'_eq]
  refine wpS_bind (wpS_get ?_)
  dsimp only
  have hmr : minRun' a₀.size a₀.size 0 = a₀.size := by
    cases z : a₀.size with
    | zero => rfl
    | succ f => rw [z] at h64; rw [minRun'_succ, if_pos h64]
  have h0 : ¬ 0 ≥ a₀.size := fun z => absurd (Nat.le_trans h2 z) (by decide)
  have h1 : 1 ≤ a₀.size := Nat.le_trans (by decide) h2
  simp only [B.size, hmr]
  obtain ⟨D, hD⟩ : ∃ D : SortSt → Prop, ∀ st', D st' ↔ (arrOf st').Perm a₀ ∧ failedOf st' = none ∧ pendingOf st' = #[(0, a₀.size, 0)] ∧ Up O key (arrOf st') a₀.size := ⟨_, fun _ => Iff.rfl⟩
  have done : ∀ st', SB a₀ kd st' → Up O key (arrOf st') a₀.size → D (setPending st' ((pendingOf st').push (0, a₀.size, 0))) := fun st' B' hu => (hD _).mpr ⟨B'.perm, B'.failed, by show (pendingOf st').push _ = _; rw [B'.pend]; rfl, hu⟩
  obtain ⟨P, hP⟩ : ∃ P : Nat → Option Unit × Nat → SortSt → Prop, ∀ x c st', P x c st' ↔ (x = 0 ∧ c = (none, 0) ∧ SB a₀ kd st') ∨ (1 ≤ x ∧ c = (none, a₀.size) ∧ D st') := ⟨_, fun _ _ _ => Iff.rfl⟩
  refine wpS_bind (wpS_mono (wpS_forRange (I := P) (Q := fun c st' => c = (none, a₀.size) ∧ D st') (fun x c st' _ hx hI => ?_) (fun c st' hI => ?_) ((hP _ _ _).mpr (.inl ⟨rfl, rfl, B⟩))) fun c st' hI => ?_)
  · rcases (hP _ _ _).mp hI with ⟨rfl, rfl, B'⟩ | ⟨hx1, rfl, hd⟩
    · dsimp only
      rw [if_neg h0]
      simp only [Nat.sub_zero, Nat.min_self, Nat.zero_add]
      refine wpS_bind (run_ok C B' (Nat.le_refl _) h1 fun m st2 B2 hm1 hm2 hu => ?_)
      dsimp only
      have fin : ∀ st3, SB a₀ kd st3 → Up O key (arrOf st3) a₀.size → P (0 + 1) (none, a₀.size) (setPending st3 ((pendingOf st3).push (0, a₀.size, 0))) := fun st3 B3 hu3 => (hP _ _ _).mpr (.inr ⟨Nat.le_refl 1, rfl, done st3 B3 hu3⟩)
      by_cases hlt : m < a₀.size
      · rw [if_pos hlt]
        refine wpS_bind (wpS_lift (wpAny_rule ⟨rfl, ?_⟩))
        refine wpS_bind (ins_ok C B2 (Nat.le_refl _) hm2 hm1 hu fun st3 B3 hu3 => ?_)
        simp only [Bool.not_true, Bool.false_eq_true, if_false]
        refine wpS_bind (wpS_get ?_)
        have hb : (pendingOf st3).back? = none := by rw [B3.pend]; rfl
        rw [hb]
        dsimp only
        exact wpS_bind (wpS_modify (wpS_pure (fin st3 B3 hu3)))
      · rw [if_neg hlt]
        obtain rfl : m = a₀.size := Nat.le_antisymm hm2 (Nat.not_lt.mp hlt)
        refine wpS_bind (wpS_get ?_)
        have hb : (pendingOf st2).back? = none := by rw [B2.pend]; rfl
        rw [hb]
        dsimp only
        exact wpS_bind (wpS_modify (wpS_pure (fin st2 B2 hu)))
    · dsimp only
      rw [if_pos (Nat.le_refl _)]
      exact wpS_pure ⟨rfl, hd⟩
  · rcases (hP _ _ _).mp hI with ⟨hx, _, _⟩ | ⟨_, hc, hd⟩
    · rw [Nat.max_eq_right (Nat.zero_le _)] at hx
      rw [hx] at h1; exact absurd h1 (by decide)
    · exact ⟨hc, hd⟩
  · obtain ⟨rfl, hd⟩ := hI
    obtain ⟨d1, d2, d3, d4⟩ := (hD _).mp hd
    dsimp only
    refine wpS_bind (wpS_mono (wpS_forRange (I := fun _ c st'' => st'' = st' ∧ c = (none, ())) (Q := fun c st'' => st'' = st' ∧ c = (none, ())) (fun x c st'' _ _ hJ => ?_) (fun _ _ hh => hh) ⟨rfl, rfl⟩) fun c st'' hJ => ?_)
    · obtain ⟨rfl, rfl⟩ := hJ
      refine wpS_bind (wpS_get ?_)
      rw [if_pos (by rw [d3]; exact Nat.le_refl 1)]
      exact wpS_pure ⟨rfl, rfl⟩
    · obtain ⟨rfl, rfl⟩ := hJ
      exact wpS_pure (h _ d1 d2 d4)
end

section
variable {prog : Program} {w : World} {A : Around} {E : Value → Shared → Prop} {s : Shared} {O : KeyOrd} {key : Value → O.α} {kd : SortKind}
theorem sort_tree {a : Addr} {vs : List Value} {n : Nat} {P : Fin → Shared → Prop} (ho : s.heap.get? a = some (seqObj "list" vs.toArray n)) (h64 : vs.length < 64)
    (hk : ∀ s' : Shared, (∀ b o, b ≠ a → s.heap.get? b = some o → s'.heap.get? b = some o) → 2 ≤ vs.length → ∀ (Q : SortKind → Shared → Prop) (E : Value → Shared → Prop), Q kd s' → wpAny (model prog w) A (keyKind' vs.toArray) Q E s')
    (hC : ∀ s' : Shared, (∀ b o, b ≠ a → s.heap.get? b = some o → s'.heap.get? b = some o) → Cmps prog w A E s' O key kd (pairsOf vs))
    (h : ∀ st' : SortSt, (arrOf st').Perm (pairsOf vs) → Up O key (arrOf st') vs.length → P (.done (.ret .none)) { s with heap := sortedHeap s.heap a vs ((arrOf st').map (·.2)) }) :
    wpAny (model prog w) A (Builtin.«list.sort» ⟨[.ref a], []⟩) P E s := by
  rw [list_sort_plain]
  have ha : a < s.heap.objs.size := Heap.lt_size ho
  refine wpAny_bind (listItems_at ho rfl ?_)
  refine wpAny_bind (listUpdate_at ho rfl ?_)
  obtain ⟨e1, ho1⟩ : ∃ e1, (s.heap.update a (Obj.mapSeq fun _ => #[])).get? a = some (seqObj "list" #[] e1) := ⟨_, get?_update_seq ho (fun _ => #[])⟩
  refine wpAny_bind (seqEpoch_at ho1 rfl ?_)
  refine wpAny_bind (wpAny_newTuple ?_)
  refine wpAny_bind (wpAny_newList ?_)
  refine wpAny_holding ?_
  have kp : ∀ b o, b ≠ a → s.heap.get? b = some o → (((s.heap.update a (Obj.mapSeq fun _ => #[])).push (seqObj "tuple" vs.toArray 0)).push (seqObj "list" #[] 0)).get? b = some o := fun b o hb e =>
    Heap.get?_push_of_some _ (Heap.get?_push_of_some _ (by rw [Heap.get?_update_ne _ _ _ _ hb]; exact e))
  have ho6 : (((s.heap.update a (Obj.mapSeq fun _ => #[])).push (seqObj "tuple" vs.toArray 0)).push (seqObj "list" #[] 0)).get? a = some (seqObj "list" #[] e1) := Heap.get?_push_of_some _ (Heap.get?_push_of_some _ ho1)
  show wpAny (model prog w) A _ P E { s with heap := ((s.heap.update a (Obj.mapSeq fun _ => #[])).push (seqObj "tuple" vs.toArray 0)).push (seqObj "list" #[] 0) }
  dsimp only
  have hsz : vs.toArray.size = vs.length := by simp
  have hps := pairsOf_size vs
  by_cases h2 : vs.toArray.size < 2
  · rw [if_pos h2, if_pos h2]
    refine wpAny_bind (wpAny_pure ?_)
    rw [StateT.run_pure]
    refine wpAny_bind (wpAny_pure ?_)
    dsimp only
    refine wpAny_bind (seqEpoch_at ho6 rfl ?_)
    refine wpAny_bind (listUpdate_at ho6 rfl ?_ (hsz2 := by rw [Array.size_map]; show (pairsOf vs).size ≤ _; rw [hps, sizeLine_eq]; omega))
    simp only [bne_self_eq_false, Bool.false_eq_true, if_false]
    refine wpAny_pure (h (SortSt.mk' general' (vs.toArray.zip vs.toArray) #[] 7 none) (Array.Perm.refl _) ?_)
    intro i j hij hj
    obtain rfl : i = j := by omega
    exact KeyOrd.kle_refl _
  · rw [if_neg h2, if_neg h2]
    refine wpAny_bind (hk _ kp (by omega) _ _ ?_)
    refine wpAny_bind (wpAny_mono (runs_ok (hC _ kp) (st := SortSt.mk' kd (vs.toArray.zip vs.toArray) #[] 7 none)
      (Q := fun _ st' => (arrOf st').Perm (pairsOf vs) ∧ failedOf st' = none ∧ Up O key (arrOf st') (pairsOf vs).size)
      ⟨Array.Perm.refl _, rfl, rfl, rfl⟩ (by omega) (by omega) fun st' a1 a2 a3 => ⟨a1, a2, a3⟩) ?_ fun _ _ e => e)
    rintro ⟨⟨⟩, st'⟩ s' ⟨rfl, hp, hf, hs⟩
    dsimp only
    refine wpAny_bind (seqEpoch_at ho6 rfl ?_)
    refine wpAny_bind (listUpdate_at ho6 rfl ?_ (hsz2 := by refine Nat.le_trans (Nat.le_of_eq ((Array.size_map ..).trans (hp.size_eq.trans hps))) ?_; rw [sizeLine_eq]; omega))
    rw [hf]
    simp only [bne_self_eq_false, Bool.false_eq_true, if_false]
    exact wpAny_pure (h st' hp (by rw [← hps]; exact hs))
theorem sorted_call {l : Addr} {vs : List Value} {Q : Value → Shared → Prop} (hl : s.heap.IsList l vs.toArray) (h64 : vs.length < 64)
    (hk : ∀ s' : Shared, (∀ b o, s.heap.get? b = some o → s'.heap.get? b = some o) → 2 ≤ vs.length → ∀ (Q : SortKind → Shared → Prop) (E : Value → Shared → Prop), Q kd s' → wpAny (model prog w) A.in1.in1 (keyKind' vs.toArray) Q E s')
    (hC : ∀ (s' : Shared) (E : Value → Shared → Prop), (∀ b o, s.heap.get? b = some o → s'.heap.get? b = some o) → Cmps prog w A.in1.in1 E s' O key kd (pairsOf vs))
    (h : ∀ st' : SortSt, (arrOf st').Perm (pairsOf vs) → Up O key (arrOf st') vs.length → Q (.ref (s.heap.objs.size + 1)) { s with heap := sortedAll s.heap vs ((arrOf st').map (·.2)) }) :
    wpAny (model prog w) A (call (.builtin "sorted") [.ref l]) Q E s := by
  refine Calls.call_function_entry kind_sorted plain_sorted entry_sorted (args_sorted1 _) ?_
  unfold Builtin.«sorted»
  refine wpAny_bind (m := checkCount "sorted" 1 1 _) (wpAny_pure ?_)
  refine wpAny_bind (collect_list hl ?_)
  refine wpAny_bind (wpAny_newList ?_)
  have hsz : ((s.heap.push (seqObj "list" #[] 0)).update s.heap.objs.size (Obj.mapSeq (· ++ vs.toArray))).objs.size = s.heap.objs.size + 1 := by rw [Heap.size_update, size_push']
  have kp : ∀ b o, s.heap.get? b = some o → (((s.heap.push (seqObj "list" #[] 0)).update s.heap.objs.size (Obj.mapSeq (· ++ vs.toArray))).push (seqObj "list" vs.toArray 0)).get? b = some o := fun b o e =>
    Heap.get?_push_of_some _ (by rw [Heap.get?_update_ne _ _ _ _ (Nat.ne_of_lt (Heap.lt_size e))]; exact Heap.get?_push_of_some _ e)
  have hoL : (((s.heap.push (seqObj "list" #[] 0)).update s.heap.objs.size (Obj.mapSeq (· ++ vs.toArray))).push (seqObj "list" vs.toArray 0)).get? (s.heap.objs.size + 1) = some (seqObj "list" vs.toArray 0) := by
    rw [← hsz]; exact Heap.get?_push_size _ rfl
  show wpAny _ _ _ _ _ { s with heap := ((s.heap.push (seqObj "list" #[] 0)).update s.heap.objs.size (Obj.mapSeq (· ++ vs.toArray))).push (seqObj "list" vs.toArray 0) }
  rw [hsz]
  have old : ∀ b o, s.heap.get? b = some o → b ≠ s.heap.objs.size + 1 := fun b o e => Nat.ne_of_lt (Nat.lt_succ_of_lt (Heap.lt_size e))
  refine wpAny_bind (wpAny_holding (wpAny_call_entry slot_list_sort ⟨_, hoL, rfl⟩ entry_list_sort (sort_tree hoL h64 (fun s' k => hk s' fun b o e => k b o (old b o e) (kp b o e)) (fun s' k => hC s' _ fun b o e => k b o (old b o e) (kp b o e)) fun st' a1 a2 => ⟨_, rfl, ?_⟩) (args_list_sort _)))
  exact wpAny_pure ⟨_, rfl, h st' a1 a2⟩
end
end Mine

namespace Mine

theorem ints_at : ∀ {vs : List Value} {ns : List Int} {i : Nat} {m : Int} {r : List Int}, IntsAre vs ns → ns.drop i = m :: r → ∃ t, vs.toArray[i]? = some (.int m t)
  | _, _, i, m, r, .nil, h => by simp at h
  | _, _, 0, m, r, .cons n t q, h => by cases h; exact ⟨t, rfl⟩
  | _, _, i + 1, m, r, .cons n t q, h => by
    obtain ⟨u, hu⟩ := ints_at (i := i) q h
    exact ⟨u, by simpa using hu⟩
open PySem.SeqAt PySem.MeetsSeq PySem.MeetsSeq2 PySem.MeetsSeq3 PySem.SeqRoads2 in
open PySem.AutoSeq1 (wpAny_loadPart') in
theorem lt_loop (l b : Addr) (n n2 : Nat) (dd dd2 : Option Addr) (sl sl2 : Array (Option Value)) (vs us : List Value) (ns ms : List Int) (h1 : IntsAre vs ns) (h2 : IntsAre us ms) (hsz : ns.length = ms.length) : ∀ (k i : Nat), ns.length - i = k → i ≤ ns.length →
    Meets (Builtin.«list.__eq__.loop» ⟨[.ref l, .ref b, rawInt i, rawInt 0], []⟩)
      (fun A R s => s.heap.get? l = some { cls := .type "list", dict := dd, data := .seq vs.toArray n, slots := sl } ∧ s.heap.get? b = some { cls := .type "list", dict := dd2, data := .seq us.toArray n2, slots := sl2 } ∧
        R (.ok (.ret (.bool (decide (ns.drop i < ms.drop i))))) s) := by
  have l1 := h1.length
  have l2 := h2.length
  intro k
  induction k with
  | zero =>
    intro i hk hi prog w A R s h
    obtain ⟨hp, g, d, tk, os⟩ := s; obtain ⟨hl, hb, h⟩ := h
    wp_walk using wpAny_loadPart' hl, wpAny_loadPart' hb
    have e1 : vs.toArray[((i : Nat) : Int).toNat]? = none := by simp; omega
    have e2 : us.toArray[((i : Nat) : Int).toNat]? = none := by simp; omega
    rw [List.drop_eq_nil_of_le (by omega), List.drop_eq_nil_of_le (by omega)] at h
    rw [e1, e2]
    wp_walk using wpAny_loadPart' hl, wpAny_loadPart' hb
    show R (.ok (.ret (.bool (decide (vs.toArray.size < us.toArray.size))))) _
    have : decide (vs.toArray.size < us.toArray.size) = false := by simp; omega
    rw [this]
    simpa using h
  | succ k ih =>
    intro i hk hi prog w A R s h
    obtain ⟨hp, g, d, tk, os⟩ := s; obtain ⟨hl, hb, h⟩ := h
    wp_walk using wpAny_loadPart' hl, wpAny_loadPart' hb
    have d1 : ns.drop i = ns[i]'(by omega) :: ns.drop (i + 1) := List.drop_eq_getElem_cons (by omega)
    have d2 : ms.drop i = ms[i]'(by omega) :: ms.drop (i + 1) := List.drop_eq_getElem_cons (by omega)
    obtain ⟨t1, q1⟩ := ints_at h1 d1
    obtain ⟨t2, q2⟩ := ints_at h2 d2
    have hc : ((i : Int) + 1) = ((i + 1 : Nat) : Int) := by push_cast; rfl
    have q1' : vs.toArray[((i : Nat) : Int).toNat]? = some (.int (ns[i]'(by omega)) t1) := q1
    have q2' : us.toArray[((i : Nat) : Int).toNat]? = some (.int (ms[i]'(by omega)) t2) := q2
    rw [d1, d2] at h
    rw [q1', q2']
    generalize ns[i]'(by omega) = x at h q1'
    generalize ms[i]'(by omega) = y at h q2'
    refine wpAny_bind (EqAt.int_int x t1 y t2 prog w _ _ ?_)
    by_cases q : x = y
    · have hb' : (x == y) = true := by simpa using q
      rw [hb']
      wp_walk
      rw [hc]
      have hh : decide (x :: ns.drop (i + 1) < y :: ms.drop (i + 1)) = decide (ns.drop (i + 1) < ms.drop (i + 1)) := by rw [decide_eq_decide, List.cons_lt_cons_iff]; simp [q]
      rw [hh] at h
      exact ⟨plainId_quiet plain_eq_loop _, codeAny_builtin entry_eq_loop (by
        rw [Around.under_plainId plain_eq_loop _]
        exact ih (i + 1) (by omega) (by omega) prog w A R _ ⟨hl, hb, h⟩)⟩
    · have hb' : (x == y) = false := by simpa using q
      rw [hb']
      wp_walk using wpAny_loadPart' hl, wpAny_loadPart' hb
      rw [q1', q2']
      have hh : decide (x :: ns.drop (i + 1) < y :: ms.drop (i + 1)) = decide (x < y) := by rw [decide_eq_decide, List.cons_lt_cons_iff]; simp [q]
      rw [hh] at h
      refine wpAny_bind ?_
      show wpAny _ _ (compareOp .Lt (.int x t1) (.int y t2)) _ _ _
      exact P.lt_int (wpAny_pure h)
open PySem.SeqAt PySem.MeetsSeq PySem.MeetsSeq2 PySem.MeetsSeq3 PySem.SeqRoads2 in
open PySem.AutoSeq1 (wpAny_loadPart') in
theorem list_lt (l b : Addr) (n n2 : Nat) (dd dd2 : Option Addr) (sl sl2 : Array (Option Value)) (vs us : List Value) (ns ms : List Int) (h1 : IntsAre vs ns) (h2 : IntsAre us ms) (hsz : ns.length = ms.length) :
    Meets (Builtin.«list.__lt__» ⟨[.ref l, .ref b], []⟩)
      (fun A R s => s.heap.get? l = some { cls := .type "list", dict := dd, data := .seq vs.toArray n, slots := sl } ∧ s.heap.get? b = some { cls := .type "list", dict := dd2, data := .seq us.toArray n2, slots := sl2 } ∧
        R (.ok (.ret (.bool (decide (ns < ms))))) s) := by
  intro prog w A R s h
  obtain ⟨hp, g, d, tk, os⟩ := s; obtain ⟨hl, hb, h⟩ := h
  have f3 := AutoSeq1.sub_list_list
  wp_walk using wpAny_loadPart' hl, wpAny_loadPart' hb
  exact ⟨plainId_quiet plain_eq_loop _, codeAny_builtin entry_eq_loop (by
    rw [Around.under_plainId plain_eq_loop _]
    exact lt_loop l b n n2 dd dd2 sl sl2 vs us ns ms h1 h2 hsz _ 0 rfl (Nat.zero_le _) prog w A R _ ⟨hl, hb, by simpa using h⟩)⟩
noncomputable def rowOrd : KeyOrd where
  α := List Int
  blt a b := decide (a < b)
  irrefl a := by simpa using List.lt_irrefl a
  trans a b c h1 h2 := by simp only [decide_eq_true_eq] at *; exact List.lt_trans h1 h2
  negTrans a b c h := by
    simp only [decide_eq_true_eq] at *
    by_cases hab : a < b
    · exact .inl hab
    · exact .inr (List.lt_of_le_of_lt (List.not_lt.mp hab) h)
  total a b h1 h2 := by simp only [decide_eq_false_iff_not] at *; exact List.le_antisymm (List.not_lt.mp h2) (List.not_lt.mp h1)
noncomputable def rowKey (h : Heap) : Value → List Int
  | .ref a => (match h.get? a with
    | some o => (match o.data with | .seq its _ => its.toList.map numOf | _ => [])
    | .none => [])
  | _ => []
noncomputable def IsRow (k : Nat) (h : Heap) (v : Value) (r : List Int) : Prop := ∃ a vs m, v = .ref a ∧ h.get? a = some (PySem.W.listOf vs.toArray m) ∧ IntsAre vs r ∧ r.length = k
theorem IsRow.key {k : Nat} {h : Heap} {v : Value} {r : List Int} (i : IsRow k h v r) : rowKey h v = r := by
  obtain ⟨a, vs, m, rfl, e, q, _⟩ := i
  unfold rowKey
  simp only [e]
  exact q.nums
section
variable {prog : Program} {w : World} {A : Around} {E : Value → Shared → Prop} {s : Shared}
open PySem.SeqAt PySem.MeetsSeq PySem.MeetsSeq2 PySem.MeetsSeq3 PySem.SeqRoads2 in
theorem lt_rows {k : Nat} {x y : Keyed} {r1 r2 : List Int} (h1 : IsRow k s.heap x.1 r1) (h2 : IsRow k s.heap y.1 r2) (hu : A.units < cLine) {st : SortSt} {Q : Option Bool → SortSt → Prop} (hk : kindOf st = oneType') (h : Q (some (decide (r1 < r2))) st) :
    wpS (model prog w) A E s (lt' x y) Q st := by
  obtain ⟨a, vs, m, e1, g1, i1, l1⟩ := h1
  obtain ⟨b, us, m2, e2, g2, i2, l2⟩ := h2
  rw [lt'_eq]
  refine wpS_bind (wpS_get ?_)
  rw [hk, keyLt'_oneType, e1, e2]
  refine wpS_bind (wpS_lift (wpAny_attempt ?_))
  rw [oneLt'_eq]
  simp only [if_true]
  refine wpAny_bind (wpAny_cRoomFor hu ?_)
  have hT : s.TypeIs (.ref a) "list" := ⟨_, g1, rfl⟩
  refine wpAny_bind (wpAny_callSpecialIfBound?_slot hT PySem.F.slot_list_lt (call_meets PySem.F.slot_list_lt hT PySem.F.entry_list_lt (PySem.F.args_list_lt_2 _ _) (list_lt a b m m2 none none #[] #[] vs us r1 r2 i1 i2 (by rw [l1, l2])) ⟨g1, g2, ?_⟩))
  show wpAny _ _ (truthOfDropped (.bool (decide (r1 < r2))) >>= fun r => pure r) _ _ _
  exact wpAny_bind (wpAny_truthy_bool (wpAny_pure ⟨rfl, wpS_pure h⟩))
theorem mapM_any {α β : Type} {f : α → Sem β} {g : α → β} : ∀ {l : List α} {Q : List β → Shared → Prop}, (∀ v ∈ l, ∀ Q : β → Shared → Prop, Q (g v) s → wpAny (model prog w) A (f v) Q E s) → Q (l.map g) s → wpAny (model prog w) A (l.mapM f) Q E s
  | [], Q, _, h => by rw [List.mapM_nil]; exact wpAny_pure h
  | v :: l, Q, hf, h => by
    rw [List.mapM_cons]
    exact wpAny_bind (hf v List.mem_cons_self _ (wpAny_bind (mapM_any (fun u hu => hf u (List.mem_cons_of_mem _ hu)) (wpAny_pure h))))
theorem kind_rows {k : Nat} {vs : List Value} (h2 : 2 ≤ vs.length) (h : ∀ v ∈ vs, ∃ r, IsRow k s.heap v r) {Q : SortKind → Shared → Prop} (hQ : Q oneType' s) : wpAny (model prog w) A (keyKind' vs.toArray) Q E s := by
  have hT : ∀ v ∈ vs, s.TypeIs v "list" := fun v hv => by
    obtain ⟨r, a, us, m, rfl, g, _, _⟩ := h v hv
    exact ⟨_, g, rfl⟩
  rw [keyKind'_eq, List.mapM_toArray]
  refine wpAny_bind (wpAny_bind (mapM_any (g := fun _ => none) (fun v hv Q hq => ?_) (wpAny_pure ?_)))
  · show wpAny _ _ (typeOf v >>= _) _ _ _
    exact wpAny_bind (wpAny_typeOf (hT v hv) (by rw [if_pos (by decide)]; exact wpAny_pure hq))
  · obtain ⟨v1, v2, r, rfl⟩ : ∃ v1 v2 r, vs = v1 :: v2 :: r := by
      match vs, h2 with
      | [], h2 => simp at h2
      | [_], h2 => simp at h2
      | v1 :: v2 :: r, _ => exact ⟨v1, v2, r, rfl⟩
    rw [if_neg (by simp), if_neg (by simp)]
    rw [oneTypeOnly'_eq, List.mapM_toArray]
    refine wpAny_bind (wpAny_bind (wpAny_bind (mapM_any (g := fun _ => Value.type "list") (fun v hv Q hq => wpAny_typeOf (hT v hv) hq) (wpAny_pure ?_))))
    have h0 : (List.map (fun _ => Value.type "list") (v1 :: v2 :: r)).toArray[0]? = some (Value.type "list") := by simp
    rw [h0]
    have hall : ((List.map (fun _ => Value.type "list") (v1 :: v2 :: r)).toArray.all fun x => x == Value.type "list") = true := by
      simp only [List.all_toArray, List.all_map, List.all_eq_true]
      intro _ _
      rfl
    simp only [hall, if_true]
    exact wpAny_pure (wpAny_pure hQ)
end

noncomputable def rowsOf : List AV → Option (List (List Int))
  | [] => some []
  | .lst xs :: r => (match intsOf xs, rowsOf r with | some ns, some rs => some (ns :: rs) | _, _ => .none)
  | _ => .none
noncomputable def lstRow (r : List Int) : AV := .lst (r.map .int)
theorem intsOf_map : ∀ {xs : List AV} {ns : List Int}, intsOf xs = some ns → xs = ns.map .int
  | [], ns, h => by cases h; rfl
  | x :: xs, ns, h => by
    cases x with
    | int i =>
      simp only [intsOf] at h
      split at h
      · rename_i ms e; cases h; rw [intsOf_map e]; rfl
      · cases h
    | _ => cases h
theorem rowsOf_map : ∀ {xs : List AV} {rs : List (List Int)}, rowsOf xs = some rs → xs = rs.map lstRow
  | [], rs, h => by cases h; rfl
  | x :: xs, rs, h => by
    cases x with
    | lst ys =>
      simp only [rowsOf] at h
      split at h
      · rename_i ns rs' e1 e2; cases h; rw [rowsOf_map e2, intsOf_map e1]; rfl
      · cases h
    | _ => cases h
noncomputable def sortI (ns : List Int) : List Int := ns.mergeSort (fun a b => decide (a ≤ b))
noncomputable def sortR (rs : List (List Int)) : List (List Int) := rs.mergeSort (fun a b => decide (a ≤ b))
noncomputable def sortedM : List AV → Cm AV := fun xs st => match xs with
  | [x] => (match itemsM x st with
    | some (ys, _) => (match intsOf ys with
      | some ns => if ns.length < 64 then some (.lst ((sortI ns).map .int), st) else .none
      | .none => (match rowsOf ys with
        | some rs => if rs.length < 64 ∧ rs.all (fun r => decide (r.length = 3)) = true then some (.lst ((sortR rs).map lstRow), st) else .none
        | .none => .none))
    | .none => .none)
  | _ => .none
theorem sortI_is {ns ms : List Int} (h1 : ms.Perm ns) (h2 : ms.Pairwise (· ≤ ·)) : ms = sortI ns :=
  List.Perm.eq_of_pairwise (le := (· ≤ ·)) (fun a b _ _ h1 h2 => Int.le_antisymm h1 h2) h2 ((List.pairwise_mergeSort (fun a b c h1 h2 => by simp at *; omega) (fun a b => by simp; omega) ns).imp (fun h => by simpa using h)) (h1.trans (List.mergeSort_perm _ _).symm)
theorem sortR_is {ns ms : List (List Int)} (h1 : ms.Perm ns) (h2 : ms.Pairwise (· ≤ ·)) : ms = sortR ns :=
  List.Perm.eq_of_pairwise (le := (· ≤ ·)) (fun a b _ _ h1 h2 => List.le_antisymm h1 h2) h2 ((List.pairwise_mergeSort (fun a b c h1 h2 => by simp only [decide_eq_true_eq] at *; exact List.le_trans h1 h2) (fun a b => by rcases List.le_total a b with h | h <;> simp [h]) ns).imp (fun h => by simpa using h)) (h1.trans (List.mergeSort_perm _ _).symm)
theorem VRs.ofMap {W : Wd} {f : Value → AV} : ∀ {l : List Value}, (∀ v ∈ l, VR W v (f v)) → VRs W l (l.map f)
  | [], _ => .nil
  | v :: l, h => .cons (h v List.mem_cons_self) (VRs.ofMap fun u hu => h u (List.mem_cons_of_mem _ hu))
theorem vrs_rows {W : Wd} {st : AS} {c : Cx} {h : Heap} (H : HR c W st h) : ∀ {vs : List Value} {rs : List (List Int)}, VRs W vs (rs.map lstRow) → (∀ r ∈ rs, r.length = 3) → vs.map (rowKey h) = rs ∧ ∀ v ∈ vs, IsRow 3 h v (rowKey h v) ∧ VR W v (lstRow (rowKey h v))
  | [], [], _, _ => ⟨rfl, fun v hv => by cases hv⟩
  | v :: vs, r :: rs, .cons a q, hl => by
    obtain ⟨h1, h2⟩ := vrs_rows H q fun r hr => hl r (List.mem_cons_of_mem _ hr)
    have hi : IsRow 3 h v r := by
      obtain ⟨b, us, m, rfl, g1, g2⟩ := a.inv_lst
      exact ⟨b, us, m, rfl, H.frz _ _ g1, intsOf_are g2 (by
        have : ∀ r : List Int, intsOf (r.map AV.int) = some r := fun r => by induction r with
          | nil => rfl
          | cons i r ih => simp only [List.map_cons, intsOf, ih]
        exact this r), hl r List.mem_cons_self⟩
    have hk := hi.key
    refine ⟨by rw [List.map_cons, hk, h1], fun u hu => ?_⟩
    rcases List.mem_cons.mp hu with rfl | hu
    · rw [hk]; exact ⟨hi, a⟩
    · exact h2 u hu
section
variable {c : Cx} {n : Nat} {sx : Sx}
theorem sorted_new {p : Pl} {W : Wd} {st : AS} {s : Shared} (I : Inv c p W st s) {vs : List Value} {out : Array Value} {xs : List AV} (hv : VRs W out.toList xs) {Q : Value → Shared → Prop}
    (hQ : ∀ W' a s', Ext p.Own W s W' s' → Inv c p W' st s' → VR W' a (.lst xs) → Q a s') : Q (.ref (s.heap.objs.size + 1)) { s with heap := sortedAll s.heap vs out } := by
  obtain ⟨e, he⟩ := sortedAll_at s.heap vs out
  have hn : s.heap.get? (s.heap.objs.size + 1) = .none := get_none_of_ge (Nat.le_succ _)
  have kp : ∀ b o, s.heap.get? b = some o → (sortedAll s.heap vs out).get? b = some o := fun _ _ => sortedAll_old
  have hN : NewW W s.heap (W.set (s.heap.objs.size + 1) (.frz (seqObj "list" out e))) (sortedAll s.heap vs out) := .inr ⟨_, _, hn, he, rfl⟩
  have H : ∀ a, s.heap.get? a = .none → W.role a = .oth := fun a => I.hr.oth_of_none
  refine hQ _ _ _ ((Ext.refl (own := p.Own) W s).pokeW (tk := s.toks) (wr := []) H (fun _ h => by cases h) (fun b o _ => kp b o) hN) (I.pokeW (tk := s.toks) (wr := []) (fun _ h => by cases h) (fun _ h => by cases h) (fun _ h => by cases h) (fun _ h => by cases h) (fun b o _ => kp b o) hN) ?_
  have L := hN.le H
  have e2 : out.toList.toArray = out := by simp
  exact .lst (vs := out.toList) (n := e) (by rw [e2]; exact Wd.set_self) (hv.mono L)
theorem sorted_ok : OkCall c n (.builtin "sorted") sortedM := by
  intro p hr W0 vs xs hv W st s hle I b st' e Q E hQ
  unfold sortedM at e
  split at e
  · split at e
    · rename_i x ys q he
      cases hv with
      | cons h1 h2 =>
        cases h2
        obtain ⟨a, us, m, rfl, hg, hvs⟩ := items_hr I.hr (h1.mono hle) he
        have hL : s.heap.IsList a us.toArray := ⟨_, hg, rfl, _, rfl⟩
        have hlen := hvs.length
        split at e
        · rename_i ns hi
          split at e
          · rename_i hl
            cases e
            have hia := intsOf_are hvs hi
            have l2 := hia.length
            refine sorted_ints hL hia (by omega) fun out ns' a1 a2 a3 => ?_
            have hv' : ∀ {l : List Value} {k : List Int}, IntsAre l k → VRs W l (k.map .int) := fun {l k} h => by
              induction h with
              | nil => exact .nil
              | cons i t _ ih => exact .cons (.int i t) ih
            rw [← sortI_is a2 a3] at hQ
            exact sorted_new I (hv' a1) hQ
          · cases e
        · split at e
          · rename_i rs hrs
            split at e
            · rename_i hl
              obtain ⟨hl, hall⟩ := hl
              cases e
              have hm := rowsOf_map hrs
              subst hm
              have h3 : ∀ r ∈ rs, r.length = 3 := fun r hr' => by simpa using List.all_eq_true.mp hall r hr'
              obtain ⟨k1, k2⟩ := vrs_rows I.hr hvs h3
              rw [List.length_map] at hlen
              have mem : ∀ x ∈ (pairsOf us).toList, x.1 = x.2 ∧ x.1 ∈ us := fun x hx => by rw [pairsOf_toList] at hx; exact mem_zip_self hx
              have stay : ∀ (s' : Shared) v, (∀ b o, s.heap.get? b = some o → s'.heap.get? b = some o) → v ∈ us → IsRow 3 s'.heap v (rowKey s.heap v) := fun s' v k hv => by
                obtain ⟨b, vs', m', g0, g1, g2, g3⟩ := (k2 v hv).1
                exact ⟨b, vs', m', g0, k _ _ g1, g2, g3⟩
              refine sorted_call (O := rowOrd) (key := rowKey s.heap) (kd := oneType') hL (by omega) (fun s' k h2 Q E hq => kind_rows h2 (fun v hv => ⟨_, stay s' v k hv⟩) hq) (fun s' E' k x y hx hy st' Q' hk hq => lt_rows (stay s' _ k (mem x hx).2) (stay s' _ k (mem y hy).2) ?_ hk hq) fun st' hp hu => ?_
              · have := hr.units
                show p.A.units + 1 + 1 < cLine
                omega
              · have hl2 : (arrOf st').toList.Perm (us.zip us) := by rw [← pairsOf_toList]; exact Array.perm_iff_toList_perm.mp hp
                have mem2 : ∀ x ∈ (arrOf st').toList, x.1 = x.2 ∧ x.1 ∈ us := fun x hx => mem_zip_self (hl2.mem_iff.mp hx)
                have hsz : (arrOf st').toList.length = us.length := by rw [hl2.length_eq]; simp
                have e1 : ((arrOf st').map (·.2)).toList = (arrOf st').toList.map (·.1) := by rw [Array.toList_map]; exact List.map_congr_left fun x hx => (mem2 x hx).1.symm
                have perm : ((arrOf st').toList.map fun x => rowKey s.heap x.1).Perm rs := by
                  have h1 := hl2.map (fun x => rowKey s.heap x.1)
                  have h2 : (us.zip us).map (fun x => rowKey s.heap x.1) = rs := by
                    have : (us.zip us).map (fun x => rowKey s.heap x.1) = ((us.zip us).map Prod.fst).map (rowKey s.heap) := by rw [List.map_map]; rfl
                    rw [this, List.map_fst_zip (Nat.le_refl _), k1]
                  rwa [h2] at h1
                have pw : ((arrOf st').toList.map fun x => rowKey s.heap x.1).Pairwise (· ≤ ·) := by
                  rw [List.pairwise_iff_getElem]
                  intro i j hi hj hij
                  rw [List.length_map] at hi hj
                  have := hu i j (Nat.le_of_lt hij) (by omega)
                  unfold kx at this
                  have gi : (arrOf st')[i]? = some (arrOf st').toList[i] := by simp at hi; simp [hi]
                  have gj : (arrOf st')[j]? = some (arrOf st').toList[j] := by simp at hj; simp [hj]
                  rw [gi, gj] at this
                  simp only [List.getElem_map]
                  unfold KeyOrd.kle rowOrd at this
                  simpa using this
                rw [← sortR_is perm pw] at hQ
                refine sorted_new I (xs := ((arrOf st').toList.map fun x => rowKey s.heap x.1).map lstRow) ?_ hQ
                rw [e1, List.map_map]
                have := VRs.ofMap (W := W) (f := fun v => lstRow (rowKey s.heap v)) (l := (arrOf st').toList.map (·.1)) fun v hv => by
                  obtain ⟨x, hx, rfl⟩ := List.mem_map.mp hv
                  exact (k2 _ (mem2 x hx).2).2
                rw [List.map_map] at this
                exact this
            · cases e
          · cases e
    · cases e
  · cases e
noncomputable def notInM : AV → AV → Cm Bool := fun x y st => match x with
  | .int k => (match itemsM y st with
    | some (ys, _) => (match intsOf ys with
      | some ns => some (!ns.contains k, st)
      | .none => .none)
    | .none => .none)
  | _ => .none
open PySem.SeqAt in
theorem notIn_ok : OkCmp c n .NotIn notInM := by
  intro p hr W0 a b x y ha hb W st s hle I v st' e Q E hQ
  unfold notInM at e
  split at e
  · rename_i k
    split at e
    · rename_i ys q he
      split at e
      · rename_i ns hi
        cases e
        obtain ⟨l, us, m, rfl, hg, hvs⟩ := items_hr I.hr (hb.mono hle) he
        obtain ⟨t, rfl⟩ := ha.inv_int
        have hia := intsOf_are hvs hi
        have hL : s.heap.IsList l us.toArray := ⟨_, hg, rfl, _, rfl⟩
        refine notIn_listAt (fun v => numOf v == k) hL (fun y hy => ?_) (hQ W _ s (Ext.refl ..) I ?_)
        · obtain ⟨i, u, rfl⟩ := hia.all y (by simpa using hy)
          exact EqAt.int_int i u k t
        · have : us.toArray.any (fun v => numOf v == k) = ns.contains k := by
            rw [← hia.nums, List.any_toArray]
            have g : ∀ l : List Value, l.any (fun v => numOf v == k) = (l.map numOf).contains k := fun l => by
              induction l with
              | nil => rfl
              | cons u l ih => rw [List.any_cons, List.map_cons, List.contains_cons, ih, BEq.comm]
            exact g us
          rw [this]
      · cases e
    · cases e
  · cases e
end
end Mine

set_option maxRecDepth 100000 in
set_option maxHeartbeats 8000000 in
open_top hd05 for PySem.Challenge.rw_dn0304_05
namespace Mine
set_option maxHeartbeats 4000000
section
variable {w : World} {h0 : Heap} {mg mb : Str → Option Value} {n : Nat} {sx : Sx}
noncomputable abbrev cx (w : World) (h0 : Heap) (mg mb : Str → Option Value) : Cx := ⟨PySem.Challenge.rw_dn0304_05.row.prog, w, hd05.heap_39 w.params, 102, h0, mg, mb⟩

theorem cls : Cls (cx w h0 mg mb) where
  makes := by show makesIn (hd05.heap_39 w.params) 102 = true; k_is
  ga := by show findIn (hd05.heap_39 w.params) (.ref 102) (Str.ofString "__getattribute__") = _; k_is
  gat := by show findIn (hd05.heap_39 w.params) (.ref 102) (Str.ofString "__getattr__") = _; k_is
  sa := by show findIn (hd05.heap_39 w.params) (.ref 102) (Str.ofString "__setattr__") = _; k_is
  plain := by show plainOver (hd05.heap_39 w.params) 102 = true; k_is
  hasDict := by show hasDictIn (hd05.heap_39 w.params) 102 = true; k_is
  fields := fun f => by
    cases f
    · show findIn (hd05.heap_39 w.params) (.ref 102) (Str.ofString "_InputSource__system_id") = _; k_is
    · show findIn (hd05.heap_39 w.params) (.ref 102) (Str.ofString "_InputSource__public_id") = _; k_is
    · show findIn (hd05.heap_39 w.params) (.ref 102) (Str.ofString "_InputSource__encoding") = _; k_is
    · show findIn (hd05.heap_39 w.params) (.ref 102) (Str.ofString "_InputSource__bytefile") = _; k_is
    · show findIn (hd05.heap_39 w.params) (.ref 102) (Str.ofString "_InputSource__charfile") = _; k_is
  keep := by show keepIn (hd05.heap_39 w.params) (.ref 102) = true; k_is

theorem one_of {P : List Value → Prop} (h : ∀ x, P [x]) : ∀ vals : List Value, vals.length = 1 → P vals := fun vals e => by
  obtain ⟨x, rfl⟩ := List.length_eq_one_iff.1 e; exact h x
theorem two_of {P : List Value → Prop} (h : ∀ x y, P [x, y]) : ∀ vals : List Value, vals.length = 2 → P vals := fun vals e => by
  match vals, e with | [x, y], _ => exact h x y
theorem m_getSystemId : MethIs (cx w h0 mg mb) "getSystemId" 57 where
  find := by show findIn (hd05.heap_39 w.params) (.ref 102) (Str.ofString "getSystemId") = _; k_is
  typ := by show typeIn (hd05.heap_39 w.params) (.ref 57) = _; k_is
  fn := ⟨_, _, _, _, by show List.lookup 57 (hd05.heap_39 w.params) = _; k_is⟩
  other := fun f => by cases f <;> decide +kernel
theorem f_getSystemId (G : Gd (cx w h0 mg mb)) : ImplF (cx w h0 mg mb) (n + 1) 57 (getF .sys) := getter_ok G cls (x := "self") (f := .sys) ⟨⟨_, _, _, by show List.lookup 57 (hd05.heap_39 w.params) = _; k_is⟩, rfl, rfl, rfl, rfl, by show codeIn (hd05.heap_39 w.params) _ _ = true; k_is, rfl, rfl, rfl, by exact one_of fun _ => rfl, by decide +kernel, by decide +kernel⟩ (by decide +kernel)
theorem m_setSystemId : MethIs (cx w h0 mg mb) "setSystemId" 50 where
  find := by show findIn (hd05.heap_39 w.params) (.ref 102) (Str.ofString "setSystemId") = _; k_is
  typ := by show typeIn (hd05.heap_39 w.params) (.ref 50) = _; k_is
  fn := ⟨_, _, _, _, by show List.lookup 50 (hd05.heap_39 w.params) = _; k_is⟩
  other := fun f => by cases f <;> decide +kernel
theorem f_setSystemId (G : Gd (cx w h0 mg mb)) : ImplF (cx w h0 mg mb) (n + 1) 50 (setF .sys) := setter_ok G cls (x := "self") (y := "system_id") (f := .sys) ⟨⟨_, _, _, by show List.lookup 50 (hd05.heap_39 w.params) = _; k_is⟩, rfl, rfl, rfl, rfl, by show codeIn (hd05.heap_39 w.params) _ _ = true; k_is, rfl, rfl, rfl, by exact two_of fun _ _ => rfl, by decide +kernel, by decide +kernel⟩ (by decide +kernel) (by decide +kernel)
theorem m_getPublicId : MethIs (cx w h0 mg mb) "getPublicId" 43 where
  find := by show findIn (hd05.heap_39 w.params) (.ref 102) (Str.ofString "getPublicId") = _; k_is
  typ := by show typeIn (hd05.heap_39 w.params) (.ref 43) = _; k_is
  fn := ⟨_, _, _, _, by show List.lookup 43 (hd05.heap_39 w.params) = _; k_is⟩
  other := fun f => by cases f <;> decide +kernel
theorem f_getPublicId (G : Gd (cx w h0 mg mb)) : ImplF (cx w h0 mg mb) (n + 1) 43 (getF .pub) := getter_ok G cls (x := "self") (f := .pub) ⟨⟨_, _, _, by show List.lookup 43 (hd05.heap_39 w.params) = _; k_is⟩, rfl, rfl, rfl, rfl, by show codeIn (hd05.heap_39 w.params) _ _ = true; k_is, rfl, rfl, rfl, by exact one_of fun _ => rfl, by decide +kernel, by decide +kernel⟩ (by decide +kernel)
theorem m_setPublicId : MethIs (cx w h0 mg mb) "setPublicId" 36 where
  find := by show findIn (hd05.heap_39 w.params) (.ref 102) (Str.ofString "setPublicId") = _; k_is
  typ := by show typeIn (hd05.heap_39 w.params) (.ref 36) = _; k_is
  fn := ⟨_, _, _, _, by show List.lookup 36 (hd05.heap_39 w.params) = _; k_is⟩
  other := fun f => by cases f <;> decide +kernel
theorem f_setPublicId (G : Gd (cx w h0 mg mb)) : ImplF (cx w h0 mg mb) (n + 1) 36 (setF .pub) := setter_ok G cls (x := "self") (y := "public_id") (f := .pub) ⟨⟨_, _, _, by show List.lookup 36 (hd05.heap_39 w.params) = _; k_is⟩, rfl, rfl, rfl, rfl, by show codeIn (hd05.heap_39 w.params) _ _ = true; k_is, rfl, rfl, rfl, by exact two_of fun _ _ => rfl, by decide +kernel, by decide +kernel⟩ (by decide +kernel) (by decide +kernel)
theorem m_getEncoding : MethIs (cx w h0 mg mb) "getEncoding" 71 where
  find := by show findIn (hd05.heap_39 w.params) (.ref 102) (Str.ofString "getEncoding") = _; k_is
  typ := by show typeIn (hd05.heap_39 w.params) (.ref 71) = _; k_is
  fn := ⟨_, _, _, _, by show List.lookup 71 (hd05.heap_39 w.params) = _; k_is⟩
  other := fun f => by cases f <;> decide +kernel
theorem f_getEncoding (G : Gd (cx w h0 mg mb)) : ImplF (cx w h0 mg mb) (n + 1) 71 (getF .enc) := getter_ok G cls (x := "self") (f := .enc) ⟨⟨_, _, _, by show List.lookup 71 (hd05.heap_39 w.params) = _; k_is⟩, rfl, rfl, rfl, rfl, by show codeIn (hd05.heap_39 w.params) _ _ = true; k_is, rfl, rfl, rfl, by exact one_of fun _ => rfl, by decide +kernel, by decide +kernel⟩ (by decide +kernel)
theorem m_setEncoding : MethIs (cx w h0 mg mb) "setEncoding" 64 where
  find := by show findIn (hd05.heap_39 w.params) (.ref 102) (Str.ofString "setEncoding") = _; k_is
  typ := by show typeIn (hd05.heap_39 w.params) (.ref 64) = _; k_is
  fn := ⟨_, _, _, _, by show List.lookup 64 (hd05.heap_39 w.params) = _; k_is⟩
  other := fun f => by cases f <;> decide +kernel
theorem f_setEncoding (G : Gd (cx w h0 mg mb)) : ImplF (cx w h0 mg mb) (n + 1) 64 (setF .enc) := setter_ok G cls (x := "self") (y := "encoding") (f := .enc) ⟨⟨_, _, _, by show List.lookup 64 (hd05.heap_39 w.params) = _; k_is⟩, rfl, rfl, rfl, rfl, by show codeIn (hd05.heap_39 w.params) _ _ = true; k_is, rfl, rfl, rfl, by exact two_of fun _ _ => rfl, by decide +kernel, by decide +kernel⟩ (by decide +kernel) (by decide +kernel)
theorem m_getByteStream : MethIs (cx w h0 mg mb) "getByteStream" 85 where
  find := by show findIn (hd05.heap_39 w.params) (.ref 102) (Str.ofString "getByteStream") = _; k_is
  typ := by show typeIn (hd05.heap_39 w.params) (.ref 85) = _; k_is
  fn := ⟨_, _, _, _, by show List.lookup 85 (hd05.heap_39 w.params) = _; k_is⟩
  other := fun f => by cases f <;> decide +kernel
theorem f_getByteStream (G : Gd (cx w h0 mg mb)) : ImplF (cx w h0 mg mb) (n + 1) 85 (getF .byt) := getter_ok G cls (x := "self") (f := .byt) ⟨⟨_, _, _, by show List.lookup 85 (hd05.heap_39 w.params) = _; k_is⟩, rfl, rfl, rfl, rfl, by show codeIn (hd05.heap_39 w.params) _ _ = true; k_is, rfl, rfl, rfl, by exact one_of fun _ => rfl, by decide +kernel, by decide +kernel⟩ (by decide +kernel)
theorem m_setByteStream : MethIs (cx w h0 mg mb) "setByteStream" 78 where
  find := by show findIn (hd05.heap_39 w.params) (.ref 102) (Str.ofString "setByteStream") = _; k_is
  typ := by show typeIn (hd05.heap_39 w.params) (.ref 78) = _; k_is
  fn := ⟨_, _, _, _, by show List.lookup 78 (hd05.heap_39 w.params) = _; k_is⟩
  other := fun f => by cases f <;> decide +kernel
theorem f_setByteStream (G : Gd (cx w h0 mg mb)) : ImplF (cx w h0 mg mb) (n + 1) 78 (setF .byt) := setter_ok G cls (x := "self") (y := "bytefile") (f := .byt) ⟨⟨_, _, _, by show List.lookup 78 (hd05.heap_39 w.params) = _; k_is⟩, rfl, rfl, rfl, rfl, by show codeIn (hd05.heap_39 w.params) _ _ = true; k_is, rfl, rfl, rfl, by exact two_of fun _ _ => rfl, by decide +kernel, by decide +kernel⟩ (by decide +kernel) (by decide +kernel)
theorem m_getCharacterStream : MethIs (cx w h0 mg mb) "getCharacterStream" 99 where
  find := by show findIn (hd05.heap_39 w.params) (.ref 102) (Str.ofString "getCharacterStream") = _; k_is
  typ := by show typeIn (hd05.heap_39 w.params) (.ref 99) = _; k_is
  fn := ⟨_, _, _, _, by show List.lookup 99 (hd05.heap_39 w.params) = _; k_is⟩
  other := fun f => by cases f <;> decide +kernel
theorem f_getCharacterStream (G : Gd (cx w h0 mg mb)) : ImplF (cx w h0 mg mb) (n + 1) 99 (getF .chr) := getter_ok G cls (x := "self") (f := .chr) ⟨⟨_, _, _, by show List.lookup 99 (hd05.heap_39 w.params) = _; k_is⟩, rfl, rfl, rfl, rfl, by show codeIn (hd05.heap_39 w.params) _ _ = true; k_is, rfl, rfl, rfl, by exact one_of fun _ => rfl, by decide +kernel, by decide +kernel⟩ (by decide +kernel)
theorem m_setCharacterStream : MethIs (cx w h0 mg mb) "setCharacterStream" 92 where
  find := by show findIn (hd05.heap_39 w.params) (.ref 102) (Str.ofString "setCharacterStream") = _; k_is
  typ := by show typeIn (hd05.heap_39 w.params) (.ref 92) = _; k_is
  fn := ⟨_, _, _, _, by show List.lookup 92 (hd05.heap_39 w.params) = _; k_is⟩
  other := fun f => by cases f <;> decide +kernel
theorem f_setCharacterStream (G : Gd (cx w h0 mg mb)) : ImplF (cx w h0 mg mb) (n + 1) 92 (setF .chr) := setter_ok G cls (x := "self") (y := "charfile") (f := .chr) ⟨⟨_, _, _, by show List.lookup 92 (hd05.heap_39 w.params) = _; k_is⟩, rfl, rfl, rfl, rfl, by show codeIn (hd05.heap_39 w.params) _ _ = true; k_is, rfl, rfl, rfl, by exact two_of fun _ _ => rfl, by decide +kernel, by decide +kernel⟩ (by decide +kernel) (by decide +kernel)
theorem init : ∃ fd body, InitIs (cx w h0 mg mb) 29 fd body "self" "system_id" :=
  ⟨_, _, by show findIn (hd05.heap_39 w.params) (.ref 102) (Str.ofString "__init__") = _; k_is, by show typeIn (hd05.heap_39 w.params) (.ref 29) = _; k_is, ⟨_, _, _, by show List.lookup 29 (hd05.heap_39 w.params) = _; k_is⟩, rfl, by show codeIn (hd05.heap_39 w.params) _ _ = true; k_is, rfl, rfl, rfl, by decide, fun _ _ => rfl, fun _ _ _ => rfl, rfl, rfl, by decide, by decide +kernel, by decide +kernel, ⟨_, _, _, _, _, _, _, _, _, _, _, _, _, _, _, _, _, _, _, _, _, _, _, _, rfl⟩⟩
theorem g_InputSource (G : Gd (cx w h0 mg mb)) : (cx w h0 mg mb).Glob "InputSource" (.ref 102) := .inl (mg_of (K := hd05.heap_39 w.params) G.inK G.g (by show nsIn (hd05.heap_39 w.params) mainGlobals (Str.ofString "InputSource") = _; k_is))
theorem r_law_far : ∃ oc od fd osl, (cx w h0 mg mb).K.lookup 134 = some ⟨oc, od, .func fd, osl⟩ := ⟨_, _, _, _, by show List.lookup 134 (hd05.heap_39 w.params) = _; k_is⟩
theorem g_law_far (G : Gd (cx w h0 mg mb)) : (cx w h0 mg mb).Glob "_law_far" (.ref 134) := .inl (mg_of (K := hd05.heap_39 w.params) G.inK G.g (by show nsIn (hd05.heap_39 w.params) mainGlobals (Str.ofString "_law_far") = _; k_is))
theorem r_law_search : ∃ oc od fd osl, (cx w h0 mg mb).K.lookup 127 = some ⟨oc, od, .func fd, osl⟩ := ⟨_, _, _, _, by show List.lookup 127 (hd05.heap_39 w.params) = _; k_is⟩
theorem g_law_search (G : Gd (cx w h0 mg mb)) : (cx w h0 mg mb).Glob "_law_search" (.ref 127) := .inl (mg_of (K := hd05.heap_39 w.params) G.inK G.g (by show nsIn (hd05.heap_39 w.params) mainGlobals (Str.ofString "_law_search") = _; k_is))
theorem r_law_told : ∃ oc od fd osl, (cx w h0 mg mb).K.lookup 113 = some ⟨oc, od, .func fd, osl⟩ := ⟨_, _, _, _, by show List.lookup 113 (hd05.heap_39 w.params) = _; k_is⟩
theorem g_law_told (G : Gd (cx w h0 mg mb)) : (cx w h0 mg mb).Glob "_law_told" (.ref 113) := .inl (mg_of (K := hd05.heap_39 w.params) G.inK G.g (by show nsIn (hd05.heap_39 w.params) mainGlobals (Str.ofString "_law_told") = _; k_is))
theorem r_law_washed : ∃ oc od fd osl, (cx w h0 mg mb).K.lookup 120 = some ⟨oc, od, .func fd, osl⟩ := ⟨_, _, _, _, by show List.lookup 120 (hd05.heap_39 w.params) = _; k_is⟩
theorem g_law_washed (G : Gd (cx w h0 mg mb)) : (cx w h0 mg mb).Glob "_law_washed" (.ref 120) := .inl (mg_of (K := hd05.heap_39 w.params) G.inK G.g (by show nsIn (hd05.heap_39 w.params) mainGlobals (Str.ofString "_law_washed") = _; k_is))
theorem g_len (G : Gd (cx w h0 mg mb)) (hB : ∀ x : Str, x ≠ "__name__" → mb x = bootBuiltins x) : (cx w h0 mg mb).Glob "len" (.builtin "len") := .inr ⟨mg_none_of (K := hd05.heap_39 w.params) G.inK G.g (by show nsIn (hd05.heap_39 w.params) mainGlobals (Str.ofString "len") = _; k_is), (hB "len" (by decide +kernel)).trans (by rfl)⟩
theorem g_range (G : Gd (cx w h0 mg mb)) (hB : ∀ x : Str, x ≠ "__name__" → mb x = bootBuiltins x) : (cx w h0 mg mb).Glob "range" (.type "range") := .inr ⟨mg_none_of (K := hd05.heap_39 w.params) G.inK G.g (by show nsIn (hd05.heap_39 w.params) mainGlobals (Str.ofString "range") = _; k_is), (hB "range" (by decide +kernel)).trans (by rfl)⟩
theorem g_sorted (G : Gd (cx w h0 mg mb)) (hB : ∀ x : Str, x ≠ "__name__" → mb x = bootBuiltins x) : (cx w h0 mg mb).Glob "sorted" (.builtin "sorted") := .inr ⟨mg_none_of (K := hd05.heap_39 w.params) G.inK G.g (by show nsIn (hd05.heap_39 w.params) mainGlobals (Str.ofString "sorted") = _; k_is), (hB "sorted" (by decide +kernel)).trans (by rfl)⟩
theorem g_zip (G : Gd (cx w h0 mg mb)) (hB : ∀ x : Str, x ≠ "__name__" → mb x = bootBuiltins x) : (cx w h0 mg mb).Glob "zip" (.type "zip") := .inr ⟨mg_none_of (K := hd05.heap_39 w.params) G.inK G.g (by show nsIn (hd05.heap_39 w.params) mainGlobals (Str.ofString "zip") = _; k_is), (hB "zip" (by decide +kernel)).trans (by rfl)⟩
theorem e_new (G : Gd (cx w h0 mg mb)) {p0 pos : Pos} {es : List Expr} {fs : Cm (List AV)} (hx : sx.sc.names.lookup ("InputSource" : Str) = some .globalImplicit) (h1 : ImplEs (cx w h0 mg mb) (n + 1) sx es fs) (hp : es.all plainX = true := by rfl) : ImplE (cx w h0 mg mb) (n + 1) sx (.Call (.Name "InputSource" p0) es [] pos) (bd fs newM) :=
  let ⟨_, _, D⟩ := init; ImplE.new G cls D hx (g_InputSource G) h1 (hp := hp)
noncomputable def B_law_told : Cm AF := thenM (retM (bd (consM (methM (var 0) (pu []) (getF .sys)) (consM (methM (var 0) (pu []) (getF .pub)) (consM (methM (var 0) (pu []) (getF .enc)) (consM (methM (var 0) (pu []) (getF .byt)) (consM (methM (var 0) (pu []) (getF .chr)) (pu [])))))) lstM))
  (pu .next)
noncomputable def F_law_told : List AV → Cm AV := runFn 1 0 B_law_told
theorem k_law_told (G : Gd (cx w h0 mg mb)) (hB : ∀ x : Str, x ≠ "__name__" → mb x = bootBuiltins x) : ImplF (cx w h0 mg mb) (n + 2) 113 F_law_told :=
  fn_ok (names := ["source"]) (others := []) (g := B_law_told) G ⟨⟨_, _, _, by show List.lookup 113 (hd05.heap_39 w.params) = _; k_is⟩, rfl, rfl, rfl, rfl, by show codeIn (hd05.heap_39 w.params) _ _ = true; k_is, rfl, rfl, rfl, by exact one_of fun _ => rfl, by decide +kernel, by decide +kernel⟩
  (ImplS.cons (ImplS1.ret (ImplE.list (ImplEs.cons (ImplE.meth G cls m_getSystemId (ImplE.name (i := 0) rfl (by decide +kernel)) (ImplEs.nil) (f_getSystemId G)) (ImplEs.cons (ImplE.meth G cls m_getPublicId (ImplE.name (i := 0) rfl (by decide +kernel)) (ImplEs.nil) (f_getPublicId G)) (ImplEs.cons (ImplE.meth G cls m_getEncoding (ImplE.name (i := 0) rfl (by decide +kernel)) (ImplEs.nil) (f_getEncoding G)) (ImplEs.cons (ImplE.meth G cls m_getByteStream (ImplE.name (i := 0) rfl (by decide +kernel)) (ImplEs.nil) (f_getByteStream G)) (ImplEs.cons (ImplE.meth G cls m_getCharacterStream (ImplE.name (i := 0) rfl (by decide +kernel)) (ImplEs.nil) (f_getCharacterStream G)) (ImplEs.nil))))))))
  (ImplS.nil))
noncomputable def B_law_washed_1 : Cm AF := thenM (asgM (bd (consM (methM (var 0) (consM (var 1) (pu [])) (setF .sys)) (consM (methM (var 0) (consM (var 1) (pu [])) (setF .pub)) (consM (methM (var 0) (consM (var 1) (pu [])) (setF .enc)) (consM (methM (var 0) (consM (var 1) (pu [])) (setF .byt)) (consM (methM (var 0) (consM (var 1) (pu [])) (setF .chr)) (pu [])))))) lstM) (setV 2))
  (thenM (iteM (orM (cmp2 (var 2) (bin2 (bd (consM (pu .none) (pu [])) lstM) (pu (.int 5)) mulLM) neM) (orM (cmp2 (bd (consM (var 0) (pu [])) (callM F_law_told)) (bin2 (bd (consM (var 1) (pu [])) lstM) (pu (.int 5)) mulLM) neM) (pu false))) (thenM (retM (pu (.bool false)))
  (pu .next)) (pu .next))
  (pu .next))
noncomputable def B_law_washed : Cm AF := thenM (forM' (bd (bd (consM (pu (.str "x")) (consM (pu (.str "")) (consM (pu .none) (pu [])))) lstM) lstIt) sizeL nxL (setV 1) (B_law_washed_1))
  (thenM (retM (pu (.bool true)))
  (pu .next))
noncomputable def F_law_washed : List AV → Cm AV := runFn 1 2 B_law_washed
theorem k_law_washed (G : Gd (cx w h0 mg mb)) (hB : ∀ x : Str, x ≠ "__name__" → mb x = bootBuiltins x) : ImplF (cx w h0 mg mb) (n + 3) 120 F_law_washed :=
  fn_ok (names := ["source"]) (others := ["value", "answers"]) (g := B_law_washed) G ⟨⟨_, _, _, by show List.lookup 120 (hd05.heap_39 w.params) = _; k_is⟩, rfl, rfl, rfl, rfl, by show codeIn (hd05.heap_39 w.params) _ _ = true; k_is, rfl, rfl, rfl, by exact one_of fun _ => rfl, by decide +kernel, by decide +kernel⟩
  (ImplS.cons (ImplS1.for (size := sizeL) (gt := goesT) (ImplI.list (ImplE.list (ImplEs.cons (ImplE.cstr) (ImplEs.cons (ImplE.cstr) (ImplEs.cons (ImplE.cnone) (ImplEs.nil)))))) (ImplA.name (i := 1) rfl rfl) (ImplS.cons (ImplS1.assign (ImplE.list (ImplEs.cons (ImplE.meth G cls m_setSystemId (ImplE.name (i := 0) rfl (by decide +kernel)) (ImplEs.cons (ImplE.name (i := 1) rfl (by decide +kernel)) (ImplEs.nil)) (f_setSystemId G)) (ImplEs.cons (ImplE.meth G cls m_setPublicId (ImplE.name (i := 0) rfl (by decide +kernel)) (ImplEs.cons (ImplE.name (i := 1) rfl (by decide +kernel)) (ImplEs.nil)) (f_setPublicId G)) (ImplEs.cons (ImplE.meth G cls m_setEncoding (ImplE.name (i := 0) rfl (by decide +kernel)) (ImplEs.cons (ImplE.name (i := 1) rfl (by decide +kernel)) (ImplEs.nil)) (f_setEncoding G)) (ImplEs.cons (ImplE.meth G cls m_setByteStream (ImplE.name (i := 0) rfl (by decide +kernel)) (ImplEs.cons (ImplE.name (i := 1) rfl (by decide +kernel)) (ImplEs.nil)) (f_setByteStream G)) (ImplEs.cons (ImplE.meth G cls m_setCharacterStream (ImplE.name (i := 0) rfl (by decide +kernel)) (ImplEs.cons (ImplE.name (i := 1) rfl (by decide +kernel)) (ImplEs.nil)) (f_setCharacterStream G)) (ImplEs.nil))))))) (ImplA.name (i := 2) rfl rfl))
  (ImplS.cons (ImplS1.ite (ImplT.bool (ImplTs.or (ImplT.cmp (ImplE.name (i := 2) rfl (by decide +kernel)) (ImplE.bin (ImplE.list (ImplEs.cons (ImplE.cnone) (ImplEs.nil))) (ImplE.cint) mulL_ok) ne_ok) (ImplTs.or (ImplT.cmp (ImplE.callFn G rfl (g_law_told G) r_law_told (ImplEs.cons (ImplE.name (i := 0) rfl (by decide +kernel)) (ImplEs.nil)) (k_law_told G hB)) (ImplE.bin (ImplE.list (ImplEs.cons (ImplE.name (i := 1) rfl (by decide +kernel)) (ImplEs.nil))) (ImplE.cint) mulL_ok) ne_ok) (ImplTs.orNil)))) (ImplS.cons (ImplS1.ret (ImplE.cbool))
  (ImplS.nil)) (ImplS.nil))
  (ImplS.nil))))
  (ImplS.cons (ImplS1.ret (ImplE.cbool))
  (ImplS.nil)))
noncomputable def B_law_search_1 : Cm AF := thenM (iteM (cmp2 (methM (var 4) (pu []) (getF .pub)) (pu .none) isM) (thenM (asgM (bin2 (methM (bin2 (var 2) (var 3) getItemM) (pu []) (getF .pub)) (pu (.int 1)) addM) (setV 5))
  (thenM (iteM (cmp2 (bin2 (bd (consM (var 2) (pu [])) lenM) (pu (.int 2)) modM) (pu (.int 0)) eqM) (thenM (dropM (lmethM (var 1) (consM (bd (consM (methM (var 4) (consM (var 5) (pu [])) (setF .pub)) (consM (methM (var 4) (consM (bin2 (var 2) (var 3) getItemM) (pu [])) (setF .chr)) (consM (methM (var 4) (consM (bd (consM (var 2) (pu [])) lenM) (pu [])) (setF .enc)) (pu [])))) lstM) (pu [])) extendM))
  (pu .next)) (thenM (dropM (lmethM (var 1) (consM (bd (consM (methM (var 4) (consM (bd (consM (var 2) (pu [])) lenM) (pu [])) (setF .enc)) (consM (methM (var 4) (consM (bin2 (var 2) (var 3) getItemM) (pu [])) (setF .chr)) (consM (methM (var 4) (consM (var 5) (pu [])) (setF .pub)) (pu [])))) lstM) (pu [])) extendM))
  (pu .next)))
  (thenM (dropM (lmethM (var 2) (consM (var 4) (pu [])) appendM))
  (pu .next)))) (pu .next))
  (pu .next)
noncomputable def B_law_search_2 : Cm AF := thenM (iteM (andM (cmp2 (var 3) (bd (consM (var 2) (pu [])) lenM) ltM) (andM (cmp2 (methM (bin2 (var 2) (var 3) getItemM) (pu []) (getF .byt)) (pu .none) isNotM) (pu true))) (thenM (forM' (bd (methM (bin2 (var 2) (var 3) getItemM) (pu []) (getF .byt)) anyIt) sizeA nxA (setV 4) (B_law_search_1))
  (pu .next)) (pu .next))
  (pu .next)
noncomputable def B_law_search : Cm AF := thenM (asgM (bd (consM (methM (bin2 (var 0) (pu (.int 0)) getItemM) (consM (pu (.int 0)) (pu [])) (setF .pub)) (consM (methM (bin2 (var 0) (pu (.int 0)) getItemM) (consM (pu (.int 0)) (pu [])) (setF .enc)) (pu []))) newLob) (setV 1))
  (thenM (asgM (bd (consM (bin2 (var 0) (pu (.int 0)) getItemM) (pu [])) newLob) (setV 2))
  (thenM (forM' (bd (consM (pu (.int 6)) (pu [])) rangeM) sizeL nxL (setV 3) (B_law_search_2))
  (thenM (retM (var 1))
  (pu .next))))
noncomputable def F_law_search : List AV → Cm AV := runFn 1 5 B_law_search
theorem k_law_search (G : Gd (cx w h0 mg mb)) (hB : ∀ x : Str, x ≠ "__name__" → mb x = bootBuiltins x) : ImplF (cx w h0 mg mb) (n + 2) 127 F_law_search :=
  fn_ok (names := ["sources"]) (others := ["answers", "found", "k", "to", "far"]) (g := B_law_search) G ⟨⟨_, _, _, by show List.lookup 127 (hd05.heap_39 w.params) = _; k_is⟩, rfl, rfl, rfl, rfl, by show codeIn (hd05.heap_39 w.params) _ _ = true; k_is, rfl, rfl, rfl, by exact one_of fun _ => rfl, by decide +kernel, by decide +kernel⟩
  (ImplS.cons (ImplS1.assign (ImplE.listMut (ImplEs.cons (ImplE.meth G cls m_setPublicId (ImplE.item (ImplE.name (i := 0) rfl (by decide +kernel)) (ImplE.cint)) (ImplEs.cons (ImplE.cint) (ImplEs.nil)) (f_setPublicId G)) (ImplEs.cons (ImplE.meth G cls m_setEncoding (ImplE.item (ImplE.name (i := 0) rfl (by decide +kernel)) (ImplE.cint)) (ImplEs.cons (ImplE.cint) (ImplEs.nil)) (f_setEncoding G)) (ImplEs.nil)))) (ImplA.name (i := 1) rfl rfl))
  (ImplS.cons (ImplS1.assign (ImplE.listMut (ImplEs.cons (ImplE.item (ImplE.name (i := 0) rfl (by decide +kernel)) (ImplE.cint)) (ImplEs.nil))) (ImplA.name (i := 2) rfl rfl))
  (ImplS.cons (ImplS1.for (size := sizeL) (gt := goesT) (ImplI.range G rfl (g_range G hB) (ImplEs.cons (ImplE.cint) (ImplEs.nil))) (ImplA.name (i := 3) rfl rfl) (ImplS.cons (ImplS1.ite (ImplT.bool (ImplTs.and (ImplT.cmp (ImplE.name (i := 3) rfl (by decide +kernel)) (ImplE.callB G rfl (g_len G hB) (ImplEs.cons (ImplE.name (i := 2) rfl (by decide +kernel)) (ImplEs.nil)) len_ok) lt_ok) (ImplTs.and (ImplT.cmp (ImplE.meth G cls m_getByteStream (ImplE.item (ImplE.name (i := 2) rfl (by decide +kernel)) (ImplE.name (i := 3) rfl (by decide +kernel))) (ImplEs.nil) (f_getByteStream G)) (ImplE.cnone) isNot_ok) (ImplTs.andNil)))) (ImplS.cons (ImplS1.for (size := sizeA) (gt := goesT) (ImplI.any (ImplE.meth G cls m_getByteStream (ImplE.item (ImplE.name (i := 2) rfl (by decide +kernel)) (ImplE.name (i := 3) rfl (by decide +kernel))) (ImplEs.nil) (f_getByteStream G))) (ImplA.name (i := 4) rfl rfl) (ImplS.cons (ImplS1.ite (ImplT.cmp (ImplE.meth G cls m_getPublicId (ImplE.name (i := 4) rfl (by decide +kernel)) (ImplEs.nil) (f_getPublicId G)) (ImplE.cnone) is_ok) (ImplS.cons (ImplS1.assign (ImplE.bin (ImplE.meth G cls m_getPublicId (ImplE.item (ImplE.name (i := 2) rfl (by decide +kernel)) (ImplE.name (i := 3) rfl (by decide +kernel))) (ImplEs.nil) (f_getPublicId G)) (ImplE.cint) add_ok) (ImplA.name (i := 5) rfl rfl))
  (ImplS.cons (ImplS1.ite (ImplT.cmp (ImplE.bin (ImplE.callB G rfl (g_len G hB) (ImplEs.cons (ImplE.name (i := 2) rfl (by decide +kernel)) (ImplEs.nil)) len_ok) (ImplE.cint) mod_ok) (ImplE.cint) eq_ok) (ImplS.cons (ImplS1.expr (ImplE.lmeth PySem.F.slot_list_extend rfl (ImplE.name (i := 1) rfl (by decide +kernel)) (ImplEs.cons (ImplE.list (ImplEs.cons (ImplE.meth G cls m_setPublicId (ImplE.name (i := 4) rfl (by decide +kernel)) (ImplEs.cons (ImplE.name (i := 5) rfl (by decide +kernel)) (ImplEs.nil)) (f_setPublicId G)) (ImplEs.cons (ImplE.meth G cls m_setCharacterStream (ImplE.name (i := 4) rfl (by decide +kernel)) (ImplEs.cons (ImplE.item (ImplE.name (i := 2) rfl (by decide +kernel)) (ImplE.name (i := 3) rfl (by decide +kernel))) (ImplEs.nil)) (f_setCharacterStream G)) (ImplEs.cons (ImplE.meth G cls m_setEncoding (ImplE.name (i := 4) rfl (by decide +kernel)) (ImplEs.cons (ImplE.callB G rfl (g_len G hB) (ImplEs.cons (ImplE.name (i := 2) rfl (by decide +kernel)) (ImplEs.nil)) len_ok) (ImplEs.nil)) (f_setEncoding G)) (ImplEs.nil))))) (ImplEs.nil)) extend_ok))
  (ImplS.nil)) (ImplS.cons (ImplS1.expr (ImplE.lmeth PySem.F.slot_list_extend rfl (ImplE.name (i := 1) rfl (by decide +kernel)) (ImplEs.cons (ImplE.list (ImplEs.cons (ImplE.meth G cls m_setEncoding (ImplE.name (i := 4) rfl (by decide +kernel)) (ImplEs.cons (ImplE.callB G rfl (g_len G hB) (ImplEs.cons (ImplE.name (i := 2) rfl (by decide +kernel)) (ImplEs.nil)) len_ok) (ImplEs.nil)) (f_setEncoding G)) (ImplEs.cons (ImplE.meth G cls m_setCharacterStream (ImplE.name (i := 4) rfl (by decide +kernel)) (ImplEs.cons (ImplE.item (ImplE.name (i := 2) rfl (by decide +kernel)) (ImplE.name (i := 3) rfl (by decide +kernel))) (ImplEs.nil)) (f_setCharacterStream G)) (ImplEs.cons (ImplE.meth G cls m_setPublicId (ImplE.name (i := 4) rfl (by decide +kernel)) (ImplEs.cons (ImplE.name (i := 5) rfl (by decide +kernel)) (ImplEs.nil)) (f_setPublicId G)) (ImplEs.nil))))) (ImplEs.nil)) extend_ok))
  (ImplS.nil)))
  (ImplS.cons (ImplS1.expr (ImplE.lmeth PySem.F.slot_list_append rfl (ImplE.name (i := 2) rfl (by decide +kernel)) (ImplEs.cons (ImplE.name (i := 4) rfl (by decide +kernel)) (ImplEs.nil)) append_ok))
  (ImplS.nil)))) (ImplS.nil))
  (ImplS.nil)))
  (ImplS.nil)) (ImplS.nil))
  (ImplS.nil)))
  (ImplS.cons (ImplS1.ret (ImplE.name (i := 1) rfl (by decide +kernel)))
  (ImplS.nil)))))
noncomputable def B_law_far_1 : Cm AF := thenM (iteM (andM (cmp2 (bin2 (var 1) (var 3) getItemM) (pu .none) isNotM) (andM (orM (cmp2 (bin2 (var 1) (var 4) getItemM) (pu .none) isM) (orM (cmp2 (bin2 (var 1) (var 4) getItemM) (bin2 (bin2 (var 1) (var 3) getItemM) (pu (.int 1)) addM) gtM) (pu false))) (pu true))) (thenM (asgM (bin2 (bin2 (var 1) (var 3) getItemM) (pu (.int 1)) addM) (fun v => bd (var 1) fun x => bd (var 4) fun y => setItemM x y v))
  (pu .next)) (pu .next))
  (pu .next)
noncomputable def B_law_far_2 : Cm AF := thenM (forM' (bd (bin2 (var 0) (var 3) getItemM) anyIt) sizeA nxA (setV 4) (B_law_far_1))
  (pu .next)
noncomputable def B_law_far_3 : Cm AF := thenM (forM' (bd (consM (pu (.int 6)) (pu [])) rangeM) sizeL nxL (setV 3) (B_law_far_2))
  (pu .next)
noncomputable def B_law_far : Cm AF := thenM (asgM (bd (consM (pu (.int 0)) (consM (pu .none) (consM (pu .none) (consM (pu .none) (consM (pu .none) (consM (pu .none) (pu []))))))) newLob) (setV 1))
  (thenM (forM' (bd (consM (pu (.int 5)) (pu [])) rangeM) sizeL nxL (setV 2) (B_law_far_3))
  (thenM (retM (var 1))
  (pu .next)))
noncomputable def F_law_far : List AV → Cm AV := runFn 1 4 B_law_far
theorem k_law_far (G : Gd (cx w h0 mg mb)) (hB : ∀ x : Str, x ≠ "__name__" → mb x = bootBuiltins x) : ImplF (cx w h0 mg mb) (n + 1) 134 F_law_far :=
  fn_ok (names := ["steps"]) (others := ["far", "turn", "a", "b"]) (g := B_law_far) G ⟨⟨_, _, _, by show List.lookup 134 (hd05.heap_39 w.params) = _; k_is⟩, rfl, rfl, rfl, rfl, by show codeIn (hd05.heap_39 w.params) _ _ = true; k_is, rfl, rfl, rfl, by exact one_of fun _ => rfl, by decide +kernel, by decide +kernel⟩
  (ImplS.cons (ImplS1.assign (ImplE.listMut (ImplEs.cons (ImplE.cint) (ImplEs.cons (ImplE.cnone) (ImplEs.cons (ImplE.cnone) (ImplEs.cons (ImplE.cnone) (ImplEs.cons (ImplE.cnone) (ImplEs.cons (ImplE.cnone) (ImplEs.nil)))))))) (ImplA.name (i := 1) rfl rfl))
  (ImplS.cons (ImplS1.for (size := sizeL) (gt := goesT) (ImplI.range G rfl (g_range G hB) (ImplEs.cons (ImplE.cint) (ImplEs.nil))) (ImplA.name (i := 2) rfl rfl) (ImplS.cons (ImplS1.for (size := sizeL) (gt := goesT) (ImplI.range G rfl (g_range G hB) (ImplEs.cons (ImplE.cint) (ImplEs.nil))) (ImplA.name (i := 3) rfl rfl) (ImplS.cons (ImplS1.for (size := sizeA) (gt := goesT) (ImplI.any (ImplE.item (ImplE.name (i := 0) rfl (by decide +kernel)) (ImplE.name (i := 3) rfl (by decide +kernel)))) (ImplA.name (i := 4) rfl rfl) (ImplS.cons (ImplS1.ite (ImplT.bool (ImplTs.and (ImplT.cmp (ImplE.item (ImplE.name (i := 1) rfl (by decide +kernel)) (ImplE.name (i := 3) rfl (by decide +kernel))) (ImplE.cnone) isNot_ok) (ImplTs.and (ImplT.bool (ImplTs.or (ImplT.cmp (ImplE.item (ImplE.name (i := 1) rfl (by decide +kernel)) (ImplE.name (i := 4) rfl (by decide +kernel))) (ImplE.cnone) is_ok) (ImplTs.or (ImplT.cmp (ImplE.item (ImplE.name (i := 1) rfl (by decide +kernel)) (ImplE.name (i := 4) rfl (by decide +kernel))) (ImplE.bin (ImplE.item (ImplE.name (i := 1) rfl (by decide +kernel)) (ImplE.name (i := 3) rfl (by decide +kernel))) (ImplE.cint) add_ok) gt_ok) (ImplTs.orNil)))) (ImplTs.andNil)))) (ImplS.cons (ImplS1.assign (ImplE.bin (ImplE.item (ImplE.name (i := 1) rfl (by decide +kernel)) (ImplE.name (i := 3) rfl (by decide +kernel))) (ImplE.cint) add_ok) (ImplA.item (ImplE.name (i := 1) rfl (by decide +kernel)) (ImplE.name (i := 4) rfl (by decide +kernel))))
  (ImplS.nil)) (ImplS.nil))
  (ImplS.nil)))
  (ImplS.nil)))
  (ImplS.nil)))
  (ImplS.cons (ImplS1.ret (ImplE.name (i := 1) rfl (by decide +kernel)))
  (ImplS.nil))))
noncomputable def S1_12 : Cm AF := retM (andV (boolV (cmp2 (methM (bin2 (var 2) (pu (.int 0)) getItemM) (pu []) (getF .chr)) (pu .none) isM)) (boolV (cmp2 (var 7) (bin2 (bd (consM (pu .none) (pu [])) lstM) (bd (consM (var 7) (pu [])) lenM) mulLM) eqM)))
noncomputable def C_law_1 : Cm AV := compN 1 [5] (bd (consM (bd (consM (var 5) (pu [])) lenM) (pu [])) rangeM) sizeL nxL (setV 0) (pu true) (emit1 (bd (consM (var 0) (consM (bin2 (var 1) (var 0) getItemM) (consM (var 0) (pu [])))) lstM))
noncomputable def S2_1 : Cm AF := retM (pu (.bool false))
noncomputable def B_law_1 : Cm AF := thenM (S2_1)
  (pu .next)
noncomputable def S1_11 : Cm AF := iteM (cmp2 (bd (consM (var 11) (pu [])) sortedM) (frzE (C_law_1)) neM) (B_law_1) (pu .next)
noncomputable def C_law_2 : Cm AV := compN 1 [] (bd (var 10) anyIt) sizeA nxA (setV 0) (cmp2 (var 0) (pu .none) isNotM) (emit1 (var 0))
noncomputable def S1_10 : Cm AF := asgM (bd (consM (frzE (C_law_2)) (pu [])) sortedM) (setV 5)
noncomputable def S5_1 : Cm AF := retM (pu (.bool false))
noncomputable def B_law_2 : Cm AF := thenM (S5_1)
  (pu .next)
noncomputable def S4_3 : Cm AF := iteM (andM (cmp2 (var 3) (pu (.int 0)) gtM) (andM (orM (cmp2 (bd (consM (var 15) (pu [])) lenM) (pu (.int 1)) neM) (orM (cmp2 (bin2 (var 10) (bin2 (var 15) (pu (.int 0)) getItemM) getItemM) (bin2 (bin2 (var 10) (var 3) getItemM) (pu (.int 1)) subM) neM) (orM (cmp2 (var 3) (bin2 (var 6) (bin2 (var 15) (pu (.int 0)) getItemM) getItemM) notInM) (pu false)))) (pu true))) (B_law_2) (pu .next)
noncomputable def C_law_3 : Cm AV := compN 1 [2, 8] (bd (consM (pu (.int 6)) (pu [])) rangeM) sizeL nxL (setV 0) (cmp2 (methM (var 2) (pu []) (getF .chr)) (bin2 (var 1) (var 0) getItemM) isM) (emit1 (var 0))
noncomputable def S4_2 : Cm AF := frzS 15 (asgM (C_law_3) (setV 15))
noncomputable def S4_1 : Cm AF := dropM (lmethM (var 11) (consM (bd (consM (methM (var 8) (pu []) (getF .enc)) (consM (bin2 (var 10) (var 3) getItemM) (consM (methM (var 8) (pu []) (getF .enc)) (pu [])))) lstM) (pu [])) appendM)
noncomputable def B_law_3 : Cm AF := thenM (S4_1)
  (thenM (S4_2)
  (thenM (S4_3)
  (pu .next)))
noncomputable def S3_6 : Cm AF := iteM (cmp2 (bin2 (var 10) (var 3) getItemM) (pu .none) isNotM) (B_law_3) (pu .next)
noncomputable def S6_1 : Cm AF := retM (pu (.bool false))
noncomputable def B_law_4 : Cm AF := thenM (S6_1)
  (pu .next)
noncomputable def S3_5 : Cm AF := iteM (andM (cmp2 (bin2 (var 10) (var 3) getItemM) (pu .none) isM) (andM (cmp2 (bd (consM (methM (var 8) (pu []) (getF .enc)) (consM (methM (var 8) (pu []) (getF .chr)) (pu []))) lstM) (bd (consM (pu .none) (consM (pu .none) (pu []))) lstM) neM) (pu true))) (B_law_4) (pu .next)
noncomputable def C_law_4 : Cm AV := compN 2 [2] (bd (var 14) anyIt) sizeA nxA (setV 0) (pu true) (emit2 (bd (consM (pu (.int 6)) (pu [])) rangeM) sizeL nxL (setV 1) (cmp2 (var 0) (bin2 (var 2) (var 1) getItemM) isM) (var 1))
noncomputable def S7_1 : Cm AF := retM (pu (.bool false))
noncomputable def B_law_5 : Cm AF := thenM (S7_1)
  (pu .next)
noncomputable def S3_4 : Cm AF := iteM (andM (cmp2 (var 14) (pu .none) isNotM) (andM (cmp2 (frzE (C_law_4)) (bin2 (var 6) (var 3) getItemM) neM) (pu true))) (B_law_5) (pu .next)
noncomputable def S8_1 : Cm AF := retM (pu (.bool false))
noncomputable def B_law_6 : Cm AF := thenM (S8_1)
  (pu .next)
noncomputable def S3_3 : Cm AF := iteM (cmp2 (boolV (cmp2 (var 14) (pu .none) isM)) (boolV (cmp2 (bin2 (var 6) (var 3) getItemM) (bd (pu []) lstM) eqM)) neM) (B_law_6) (pu .next)
noncomputable def S9_1 : Cm AF := retM (pu (.bool false))
noncomputable def B_law_7 : Cm AF := thenM (S9_1)
  (pu .next)
noncomputable def S3_2 : Cm AF := iteM (orM (cmp2 (methM (var 8) (pu []) (getF .sys)) (bin2 (var 1) (var 3) getItemM) neM) (orM (cmp2 (methM (var 8) (pu []) (getF .pub)) (bin2 (var 10) (var 3) getItemM) neM) (pu false))) (B_law_7) (pu .next)
noncomputable def S3_1 : Cm AF := asgM (bd (consM (bin2 (var 2) (var 3) getItemM) (consM (methM (bin2 (var 2) (var 3) getItemM) (pu []) (getF .byt)) (pu []))) tupM) (unpackM 2 (consA (setV 8) (consA (setV 14) (nilA))))
noncomputable def B_law_8 : Cm AF := thenM (S3_1)
  (thenM (S3_2)
  (thenM (S3_3)
  (thenM (S3_4)
  (thenM (S3_5)
  (thenM (S3_6)
  (pu .next))))))
noncomputable def S1_9 : Cm AF := forM' (bd (consM (pu (.int 6)) (pu [])) rangeM) sizeL nxL (setV 3) (B_law_8)
noncomputable def S1_8 : Cm AF := asgM (bd (consM (bd (consM (var 6) (pu [])) (callM F_law_far)) (consM (bd (pu []) newLob) (pu []))) tupM) (swapM 2 (consA (setV 11) (consA (setV 10) (nilA))))
noncomputable def S10_3 : Cm AF := dropM (lmethM (var 7) (consM (methM (var 8) (consM (var 9) (pu [])) (setF .sys)) (pu [])) appendM)
noncomputable def S10_2 : Cm AF := dropM (lmethM (var 7) (consM (methM (var 8) (consM (methM (var 8) (pu []) (getF .byt)) (pu [])) (setF .byt)) (pu [])) appendM)
noncomputable def S11_1 : Cm AF := retM (pu (.bool false))
noncomputable def B_law_9 : Cm AF := thenM (S11_1)
  (pu .next)
noncomputable def S10_1 : Cm AF := iteM (cmp2 (methM (var 8) (pu []) (getF .sys)) (var 9) neM) (B_law_9) (pu .next)
noncomputable def B_law_10 : Cm AF := thenM (S10_1)
  (thenM (S10_2)
  (thenM (S10_3)
  (pu .next)))
noncomputable def S1_7 : Cm AF := forM' (bd (consM (var 2) (consM (var 1) (pu []))) zip2It) size2 nx2 (unpackM 2 (consA (setV 8) (consA (setV 9) (nilA)))) (B_law_10)
noncomputable def S1_6 : Cm AF := dropM (lmethM (var 7) (consM (bd (consM (var 2) (pu [])) (callM F_law_search)) (pu [])) extendM)
noncomputable def S13_2 : Cm AF := dropM (lmethM (var 7) (consM (methM (bin2 (var 2) (var 12) getItemM) (consM (pu .none) (pu [])) (setF .byt)) (pu [])) appendM)
noncomputable def S13_1 : Cm AF := asgM (bd (pu []) lstM) (fun v => bd (var 6) fun x => bd (var 12) fun y => setItemM x y v)
noncomputable def B_law_11 : Cm AF := thenM (S13_1)
  (thenM (S13_2)
  (pu .next))
noncomputable def S15_2 : Cm AF := dropM (lmethM (var 7) (consM (methM (bin2 (var 2) (var 12) getItemM) (consM (bd (consM (bin2 (var 2) (var 13) getItemM) (pu [])) newLob) (pu [])) (setF .byt)) (pu [])) appendM)
noncomputable def S15_1 : Cm AF := asgM (bd (consM (var 13) (pu [])) newLob) (fun v => bd (var 6) fun x => bd (var 12) fun y => setItemM x y v)
noncomputable def B_law_12 : Cm AF := thenM (S15_1)
  (thenM (S15_2)
  (pu .next))
noncomputable def S16_2 : Cm AF := dropM (lmethM (methM (bin2 (var 2) (var 12) getItemM) (pu []) (getF .byt)) (consM (bin2 (var 2) (var 13) getItemM) (pu [])) appendM)
noncomputable def S16_1 : Cm AF := dropM (lmethM (bin2 (var 6) (var 12) getItemM) (consM (var 13) (pu [])) appendM)
noncomputable def B_law_13 : Cm AF := thenM (S16_1)
  (thenM (S16_2)
  (pu .next))
noncomputable def S14_1 : Cm AF := iteM (cmp2 (bin2 (var 6) (var 12) getItemM) (bd (pu []) lstM) eqM) (B_law_12) (B_law_13)
noncomputable def B_law_14 : Cm AF := thenM (S14_1)
  (pu .next)
noncomputable def S12_2 : Cm AF := iteM (cmp2 (bin2 (bin2 (var 4) (pu (.int 36)) divM) (pu (.int 5)) modM) (pu (.int 4)) eqM) (B_law_11) (B_law_14)
noncomputable def S12_1 : Cm AF := asgM (bd (consM (bin2 (var 4) (pu (.int 6)) modM) (consM (bin2 (bin2 (var 4) (pu (.int 6)) divM) (pu (.int 6)) modM) (pu []))) tupM) (swapM 2 (consA (setV 13) (consA (setV 12) (nilA))))
noncomputable def B_law_15 : Cm AF := thenM (S12_1)
  (thenM (S12_2)
  (pu .next))
noncomputable def S1_5 : Cm AF := forM' (bd (bin2 (bd (consM (pu (.int 6)) (consM (pu (.int 13)) (consM (pu (.int 18)) (pu [])))) lstM) (var 0) addM) lstIt) sizeL nxL (setV 4) (B_law_15)
noncomputable def S17_2 : Cm AF := dropM (lmethM (var 7) (consM (methM (bin2 (var 2) (var 3) getItemM) (consM (bin2 (var 1) (var 3) getItemM) (pu [])) (setF .sys)) (pu [])) appendM)
noncomputable def S18_1 : Cm AF := retM (pu (.bool false))
noncomputable def B_law_16 : Cm AF := thenM (S18_1)
  (pu .next)
noncomputable def S17_1 : Cm AF := iteM (orM (cmp2 (bd (consM (bin2 (var 2) (var 3) getItemM) (pu [])) (callM F_law_told)) (bin2 (bd (consM (pu .none) (pu [])) lstM) (pu (.int 5)) mulLM) neM) (orM (notM (bd (bd (consM (bin2 (var 2) (var 3) getItemM) (pu [])) (callM F_law_washed)) truthM)) (pu false))) (B_law_16) (pu .next)
noncomputable def B_law_17 : Cm AF := thenM (S17_1)
  (thenM (S17_2)
  (pu .next))
noncomputable def S1_4 : Cm AF := forM' (bd (bd (consM (pu (.int 1)) (consM (pu (.int 3)) (consM (pu (.int 5)) (pu [])))) lstM) lstIt) sizeL nxL (setV 3) (B_law_17)
noncomputable def S1_3 : Cm AF := asgM (bd (consM (bd (consM (bd (pu []) lstM) (consM (bd (pu []) lstM) (consM (bd (pu []) lstM) (consM (bd (pu []) lstM) (consM (bd (pu []) lstM) (consM (bd (pu []) lstM) (pu []))))))) newLob) (consM (bd (pu []) newLob) (pu []))) tupM) (swapM 2 (consA (setV 7) (consA (setV 6) (nilA))))
noncomputable def C_law_5 : Cm AV := compN 1 [1] (bd (consM (pu (.int 6)) (pu [])) rangeM) sizeL nxL (setV 0) (pu true) (emit1 (iteM (cmp2 (bin2 (var 0) (pu (.int 2)) modM) (pu (.int 1)) eqM) (bd (pu []) newM) (bd (consM (bin2 (var 1) (var 0) getItemM) (pu [])) newM)))
noncomputable def S1_2 : Cm AF := asgM (frzE (C_law_5)) (setV 2)
noncomputable def S1_1 : Cm AF := asgM (bd (consM (pu (.str "")) (consM (pu (.str "b")) (consM (pu (.str "c")) (consM (pu (.str "d")) (consM (pu (.str "e")) (consM (pu (.str "f")) (pu []))))))) lstM) (setV 1)
noncomputable def B_law : Cm AF := thenM (S1_1)
  (thenM (S1_2)
  (thenM (S1_3)
  (thenM (S1_4)
  (thenM (S1_5)
  (thenM (S1_6)
  (thenM (S1_7)
  (thenM (S1_8)
  (thenM (S1_9)
  (thenM (S1_10)
  (thenM (S1_11)
  (thenM (S1_12)
  (pu .next))))))))))))
noncomputable def V_law : List Str := ["script", "names", "sources", "k", "x", "dues", "steps", "answers", "source", "name", "far", "order", "a", "b", "told", "ahead"]
/- the law: level 3 -/
end

set_option linter.unusedSimpArgs false
noncomputable def AV.pl : AV → Bool
  | .none => true
  | .int _ => true
  | .str _ => true
  | _ => false
theorem pl_eq {v : AV} (h : v.pl = true) (st : AS) (d : Nat) : eqF st (d + 1) v v = some true := by cases v <;> first | simp [eqF, AV.sc, Sc.eq]; done | cases h
theorem then_next {f g : Cm AF} {st st1 : AS} (h : f st = some (.next, st1)) : thenM f g st = g st1 := by rw [thenM, bd, h]
theorem then_ret {f g : Cm AF} {st st1 : AS} {v : AV} (h : f st = some (.ret v, st1)) : thenM f g st = some (.ret v, st1) := by rw [thenM, bd, h]; rfl
theorem ite_t {α : Type} {t : Cm Bool} {f g : Cm α} {st st1 : AS} (h : t st = some (true, st1)) : iteM t f g st = f st1 := by rw [iteM, bd, h]; rfl
theorem ite_f {α : Type} {t : Cm Bool} {f g : Cm α} {st st1 : AS} (h : t st = some (false, st1)) : iteM t f g st = g st1 := by rw [iteM, bd, h]; rfl
theorem bd_is {α β : Type} {f : Cm α} {g : α → Cm β} {st st1 : AS} {a : α} (h : f st = some (a, st1)) : bd f g st = g a st1 := by rw [bd, h]
theorem eqAll_nones (st : AS) : ∀ (xs : List AV), (∀ x ∈ xs, x = .none) → eqAll (eqF st 7) xs (List.replicate xs.length .none) = some true
  | [], _ => rfl
  | x :: xs, h => by
    have hx : x = .none := h x List.mem_cons_self
    have ih := eqAll_nones st xs (fun y hy => h y (List.mem_cons_of_mem _ hy))
    subst hx
    have e : eqF st 7 .none .none = some true := rfl
    rw [List.length_cons, List.replicate_succ]
    simp [eqAll, e, ih]
theorem look_put_self {k : Nat} {xs ys : List AV} : ∀ {g : List (Nat × List AV)}, lookL k g = some xs → lookL k (putSeg k ys g) = some ys
  | [], h => by cases h
  | (j, zs) :: r, h => by
    by_cases q : k = j
    · simp [putSeg, lookL, q]
    · simp only [lookL, if_neg q] at h
      simp only [putSeg, if_neg q, lookL]
      exact look_put_self h
theorem look_put_ne {j k : Nat} {ys : List AV} (h : j ≠ k) : ∀ (g : List (Nat × List AV)), lookL j (putSeg k ys g) = lookL j g
  | [] => rfl
  | (i, zs) :: r => by
    by_cases q : k = i
    · subst q; simp [putSeg, lookL, h]
    · simp only [putSeg, if_neg q, lookL, look_put_ne h r]
theorem get_put_self {k : Nat} {xs ys : List AV} : ∀ {l : LH}, getL1 k l = some xs → getL1 k (putL1 k ys l) = some ys
  | [], h => by cases h
  | g :: r, h => by
    unfold getL1 at h
    cases q : lookL k g with
    | some zs => simp only [putL1, q, getL1, look_put_self q]
    | none =>
      simp only [q] at h
      simp only [putL1, q, getL1]
      exact get_put_self h
theorem get_put_ne {j k : Nat} {ys : List AV} (h : j ≠ k) : ∀ (l : LH), getL1 j (putL1 k ys l) = getL1 j l
  | [] => rfl
  | g :: r => by
    cases q : lookL k g with
    | some zs => simp only [putL1, q, getL1, look_put_ne h]
    | none => simp only [putL1, q, getL1, get_put_ne h r]
theorem get_push_self {k : Nat} {xs : List AV} (l : LH) : getL1 k (pushL1 k xs l) = some xs := by
  cases l <;> simp [pushL1, getL1, lookL]
theorem get_push_ne {j k : Nat} {xs : List AV} (h : j ≠ k) (l : LH) : getL1 j (pushL1 k xs l) = getL1 j l := by
  cases l <;> simp [pushL1, getL1, lookL, h]
theorem frzE_is {f : Cm AV} {st st1 : AS} {N : Nat} {ys : List AV} (h : f { st with lst := [] :: st.lst } = some (.lob N, { st1 with lst := [(N, ys)] :: st.lst })) : frzE f st = some (.lst ys, { st1 with lst := st.lst }) := by
  unfold frzE; rw [h]; simp [frzV, frz0, lookL]
theorem forG_next {σ : Type} {nx : σ → AS → Option (Option (AV × σ))} {tgt : AV → Cm Unit} {body : Cm AF} {m : Nat} {i i' : σ} {x : AV} {st : AS} (h : nx i st = some (some (x, i'))) : forG nx tgt body (m + 1) i st = (bd (tgt x) fun _ => thenM body (forG nx tgt body m i')) st := by
  rw [forG]; simp only [h]
theorem forL_cons {tgt : AV → Cm Unit} {body : Cm AF} {x : AV} {xs : List AV} {k : Nat} {st st1 st2 : AS} (h1 : tgt x st = some ((), st1)) (h2 : body st1 = some (.next, st2)) : forG nxL tgt body (k + 1) (x :: xs) st = forG nxL tgt body k xs st2 := by
  rw [forG_next (i' := xs) (x := x) rfl, bd_is h1, then_next h2]
theorem forL_is {f : Cm (List AV)} {tgt : AV → Cm Unit} {body : Cm AF} {xs : List AV} {st st1 : AS} {R : Option (AF × AS)} (h1 : f st = some (xs, st1)) (h2 : forG nxL tgt body (xs.length + 1) xs st1 = R) : forM' f sizeL nxL tgt body st = R := by
  rw [forM', bd_is h1]; exact h2
theorem forA_next {tgt : AV → Cm Unit} {body : Cm AF} {X x : AV} {xs : List AV} {i k : Nat} {st s' st1 st2 : AS} (h0 : itemsM X st = some (xs, s')) (hx : xs[i]? = some x) (h1 : tgt x st = some ((), st1)) (h2 : body st1 = some (.next, st2)) : forG nxA tgt body (k + 1) (X, i) st = forG nxA tgt body k (X, i + 1) st2 := by
  rw [forG_next (i' := (X, i + 1)) (x := x) (by simp only [nxA, h0, hx]), bd_is h1, then_next h2]
theorem forA_end {tgt : AV → Cm Unit} {body : Cm AF} {X : AV} {xs : List AV} {i k : Nat} {st s' : AS} (h0 : itemsM X st = some (xs, s')) (hx : xs.length ≤ i) : forG nxA tgt body (k + 1) (X, i) st = some (.next, st) := by
  have hn : xs[i]? = .none := by rw [List.getElem?_eq_none_iff]; exact hx
  rw [forG]; simp only [nxA, h0, hn]
theorem forA_is {f : Cm AV} {tgt : AV → Cm Unit} {body : Cm AF} {X : AV} {xs : List AV} {st st1 s' : AS} {R : Option (AF × AS)} (h1 : f st = some (X, st1)) (h0 : itemsM X st1 = some (xs, s')) (h2 : forG nxA tgt body (xs.length + 1) (X, 0) st1 = R) : forM' (bd f anyIt) sizeA nxA tgt body st = R := by
  have e : bd f anyIt st = some ((X, 0), st1) := by rw [bd_is h1]; simp only [anyIt, h0]
  rw [forM', bd_is e]
  simp only [sizeA, h0]; exact h2
theorem item_lob {a k : Nat} {L : LH} {xs : List AV} {v : AV} (h : getL1 a L = some xs) (hl : xs.length ≤ 100000) (hx : xs[k]? = some v) (loc : List AV) (ins : List Ins) (N : Nat) : getItemM (.lob a) (.int (k : Int)) ⟨loc, ins, L, N⟩ = some (v, ⟨loc, ins, L, N⟩) := by
  simp [getItemM, AV.int?, itemsM, h, hl, idxM, hx]
theorem item_lst {k : Nat} {xs : List AV} {v : AV} (hl : xs.length ≤ 100000) (hx : xs[k]? = some v) (st : AS) : getItemM (.lst xs) (.int (k : Int)) st = some (v, st) := by
  simp [getItemM, AV.int?, itemsM, hl, idxM, hx]
theorem call_ret {k m : Nat} {g : Cm AF} {xs : List AV} {loc l' : List AV} {ins ins' : List Ins} {L L' : LH} {N N' : Nat} {v : AV} {seg : List (Nat × List AV)} (hx : xs.length = k) (h : g ⟨xs ++ List.replicate m .unb, ins, [] :: L, N⟩ = some (.ret v, ⟨l', ins', seg :: L', N'⟩)) :
    callM (runFn k m g) xs ⟨loc, ins, L, N⟩ = some (frzV seg v, ⟨loc, ins', L', N'⟩) := by
  simp only [callM, runFn, runFnG, hx, if_true, h, endFn]/-! the plain law: the graph -/
noncomputable def upd {α : Type} (f : Nat → α) (k : Nat) (v : α) : Nat → α := fun i => if i = k then v else f i
theorem upd_at {α : Type} (f : Nat → α) (k : Nat) (v : α) : upd f k v k = v := if_pos rfl
theorem upd_ne {α : Type} (f : Nat → α) {k i : Nat} (v : α) (h : i ≠ k) : upd f k v i = f i := if_neg h
inductive Rch (adj : Nat → List Nat) : Nat → Nat → Prop
  | zero : Rch adj 0 0
  | step {n u v : Nat} : Rch adj n u → v ∈ adj u → Rch adj (n + 1) v
structure Bf where
  fnd : List Nat
  D : Nat → Option Nat
  E : Nat → Option Nat
  P : Nat → Option Nat
noncomputable def visit (u : Nat) (s : Bf) (v : Nat) : Bf := match s.D v with
  | some _ => s
  | .none => ⟨s.fnd ++ [v], upd s.D v ((s.D u).map (· + 1)), upd s.E v (some s.fnd.length), upd s.P v (some u)⟩
noncomputable def node (adj : Nat → List Nat) (s : Bf) (k : Nat) : Bf := match s.fnd[k]? with
  | some u => (adj u).foldl (visit u) s
  | .none => s
noncomputable def O0 : Nat → Option Nat := fun _ => .none
noncomputable def bf0 : Bf := ⟨[0], upd O0 0 (some 0), upd O0 0 (some 0), O0⟩
structure B0 (adj : Nat → List Nat) (s : Bf) : Prop where
  nd : s.fnd.Nodup
  lt : ∀ v ∈ s.fnd, v < 6
  hd : s.fnd[0]? = some 0
  mem : ∀ v, (∃ e, s.D v = some e) ↔ v ∈ s.fnd
  d0 : s.D 0 = some 0
  he : ∀ (i v : Nat), s.fnd[i]? = some v → s.E v = some i
  en : ∀ v, v ∉ s.fnd → s.E v = .none ∧ s.P v = .none
  p0 : s.P 0 = .none
  par : ∀ v ∈ s.fnd, v ≠ 0 → ∃ u d, s.P v = some u ∧ v ∈ adj u ∧ s.D u = some d ∧ s.D v = some (d + 1)
  le : ∀ (i v d : Nat), s.fnd[i]? = some v → s.D v = some d → d ≤ i
  mono : ∀ (i j v w a b : Nat), i ≤ j → s.fnd[i]? = some v → s.fnd[j]? = some w → s.D v = some a → s.D w = some b → a ≤ b
/-- while the node at place k is worked at -/
structure BJ (adj : Nat → List Nat) (k u du : Nat) (done : List Nat) (s : Bf) : Prop where
  b : B0 adj s
  at_ : s.fnd[k]? = some u
  hdu : s.D u = some du
  bnd : ∀ (v e : Nat), s.D v = some e → e ≤ du + 1
  clo : ∀ (i w d : Nat), i < k → s.fnd[i]? = some w → s.D w = some d → ∀ v ∈ adj w, ∃ e, s.D v = some e ∧ e ≤ d + 1
  now : ∀ v ∈ done, ∃ e, s.D v = some e
theorem snoc_get {l : List Nat} {v w i : Nat} (h : (l ++ [v])[i]? = some w) : l[i]? = some w ∨ (i = l.length ∧ w = v) := by
  by_cases q : i < l.length
  · rw [List.getElem?_append_left q] at h; exact .inl h
  · rw [List.getElem?_append_right (by omega)] at h
    have : i - l.length = 0 := by
      cases z : i - l.length with
      | zero => rfl
      | succ m => rw [z] at h; cases h
    rw [this] at h
    cases h
    exact .inr ⟨by omega, rfl⟩
theorem visit_ok {adj : Nat → List Nat} (hadj : ∀ u, ∀ v ∈ adj u, v < 6) {k u du v : Nat} {done : List Nat} {s : Bf} (J : BJ adj k u du done s) (hv : v ∈ adj u) : BJ adj k u du (v :: done) (visit u s v) := by
  unfold visit
  cases q : s.D v with
  | some e => exact ⟨J.b, J.at_, J.hdu, J.bnd, J.clo, fun w hw => by rcases List.mem_cons.mp hw with rfl | hw; exact ⟨e, q⟩; exact J.now w hw⟩
  | none =>
    have B := J.b
    dsimp only
    rw [J.hdu]
    have nv : v ∉ s.fnd := fun h => by obtain ⟨e, he⟩ := (B.mem v).mpr h; rw [q] at he; cases he
    have ne : ∀ {w}, w ∈ s.fnd → w ≠ v := fun h z => nv (z ▸ h)
    have un : u ≠ v := fun z => by have := J.hdu; rw [z, q] at this; cases this
    have keep : ∀ {w e}, s.D w = some e → upd s.D v (some (du + 1)) w = some e := fun {w e} h => by
      rw [upd_ne _ _ (fun z => by rw [z, q] at h; cases h)]; exact h
    have back : ∀ {w e}, upd s.D v (some (du + 1)) w = some e → (w = v ∧ e = du + 1) ∨ (w ≠ v ∧ s.D w = some e) := fun {w e} h => by
      by_cases z : w = v
      · rw [z, upd_at] at h; exact .inl ⟨z, (Option.some.inj h).symm⟩
      · rw [upd_ne _ _ z] at h; exact .inr ⟨z, h⟩
    have old : ∀ {i w}, s.fnd[i]? = some w → (s.fnd ++ [v])[i]? = some w := fun {i w} h => by
      rw [List.getElem?_append_left (List.getElem?_eq_some_iff.mp h).1]; exact h
    have k_lt := (List.getElem?_eq_some_iff.mp J.at_).1
    have du_le := B.le k u du J.at_ J.hdu
    refine ⟨⟨?_, ?_, old B.hd, ?_, keep B.d0, ?_, ?_, ?_, ?_, ?_, ?_⟩, old J.at_, keep J.hdu, ?_, ?_, ?_⟩
    · exact List.nodup_append.mpr ⟨B.nd, by simp, fun a ha b hb => by rw [List.mem_singleton.mp hb]; exact ne ha⟩
    · intro w hw
      rcases List.mem_append.mp hw with h | h
      · exact B.lt w h
      · rw [List.mem_singleton.mp h]; exact hadj u v hv
    · intro w
      constructor
      · rintro ⟨e, he⟩
        rcases back he with ⟨z, _⟩ | ⟨_, h⟩
        · rw [z]; exact List.mem_append_right _ List.mem_cons_self
        · exact List.mem_append_left _ ((B.mem w).mp ⟨e, h⟩)
      · intro h
        rcases List.mem_append.mp h with h | h
        · obtain ⟨e, he⟩ := (B.mem w).mpr h; exact ⟨e, keep he⟩
        · rw [List.mem_singleton.mp h]; exact ⟨_, upd_at _ _ _⟩
    · intro i w h
      rcases snoc_get h with h | ⟨rfl, rfl⟩
      · show upd s.E v _ w = _
        rw [upd_ne _ _ (ne (List.mem_of_getElem? h))]; exact B.he i w h
      · exact upd_at _ _ _
    · intro w h
      have h1 : w ∉ s.fnd := fun z => h (List.mem_append_left _ z)
      have h2 : w ≠ v := fun z => h (by rw [z]; exact List.mem_append_right _ List.mem_cons_self)
      show upd s.E v _ w = _ ∧ upd s.P v _ w = _
      rw [upd_ne _ _ h2, upd_ne _ _ h2]; exact B.en w h1
    · show upd s.P v _ 0 = _
      rw [upd_ne _ _ (ne (List.mem_of_getElem? B.hd))]; exact B.p0
    · intro w hw h0
      rcases List.mem_append.mp hw with h | h
      · obtain ⟨x, d, h1, h2, h3, h4⟩ := B.par w h h0
        exact ⟨x, d, by show upd s.P v _ w = _; rw [upd_ne _ _ (ne h)]; exact h1, h2, keep h3, keep h4⟩
      · have := List.mem_singleton.mp h; subst this
        exact ⟨u, du, upd_at _ _ _, hv, keep J.hdu, upd_at _ _ _⟩
    · intro i w d h1 h2
      rcases snoc_get h1 with h | ⟨rfl, rfl⟩
      · rcases back h2 with ⟨z, _⟩ | ⟨_, h2⟩
        · exact absurd z (ne (List.mem_of_getElem? h))
        · exact B.le i w d h h2
      · have : some (du + 1) = some d := (upd_at s.D w (some (du + 1))).symm.trans h2
        cases this; omega
    · intro i j x y a b hij h1 h2 h3 h4
      rcases snoc_get h2 with g2 | ⟨rfl, rfl⟩
      · have hj := (List.getElem?_eq_some_iff.mp g2).1
        rcases snoc_get h1 with g1 | ⟨rfl, _⟩
        · rcases back h3 with ⟨z, _⟩ | ⟨_, q3⟩
          · exact absurd z (ne (List.mem_of_getElem? g1))
          · rcases back h4 with ⟨z, _⟩ | ⟨_, q4⟩
            · exact absurd z (ne (List.mem_of_getElem? g2))
            · exact B.mono i j x y a b hij g1 g2 q3 q4
        · omega
      · have : some (du + 1) = some b := (upd_at s.D y (some (du + 1))).symm.trans h4
        cases this
        rcases back h3 with ⟨_, z⟩ | ⟨_, q3⟩
        · omega
        · exact J.bnd x a q3
    · intro w e h
      rcases back h with ⟨_, z⟩ | ⟨_, h⟩
      · omega
      · exact J.bnd w e h
    · intro i w d hi h1 h2 x hx
      rcases snoc_get h1 with g1 | ⟨z, _⟩
      · rcases back h2 with ⟨z, _⟩ | ⟨_, q2⟩
        · exact absurd z (ne (List.mem_of_getElem? g1))
        · obtain ⟨e, he, hle⟩ := J.clo i w d hi g1 q2 x hx
          exact ⟨e, keep he, hle⟩
      · omega
    · intro w hw
      rcases List.mem_cons.mp hw with rfl | hw
      · exact ⟨_, upd_at _ _ _⟩
      · obtain ⟨e, he⟩ := J.now w hw; exact ⟨e, keep he⟩
theorem visits_ok {adj : Nat → List Nat} (hadj : ∀ u, ∀ v ∈ adj u, v < 6) {k u du : Nat} : ∀ {vs done : List Nat} {s : Bf}, BJ adj k u du done s → (∀ v ∈ vs, v ∈ adj u) → ∃ done', (∀ v ∈ vs, v ∈ done') ∧ BJ adj k u du done' (vs.foldl (visit u) s) ∧ (∀ v ∈ done, v ∈ done')
  | [], done, s, J, _ => ⟨done, ⟨fun v h => (nomatch h), J, fun v h => h⟩⟩
  | v :: vs, done, s, J, h => by
    obtain ⟨d', h1, h2, h3⟩ := visits_ok hadj (visit_ok hadj J (h v List.mem_cons_self)) fun w hw => h w (List.mem_cons_of_mem _ hw)
    exact ⟨d', fun w hw => by rcases List.mem_cons.mp hw with rfl | hw; exact h3 _ List.mem_cons_self; exact h1 w hw, h2, fun w hw => h3 w (List.mem_cons_of_mem _ hw)⟩
/-- the nodes at places below k are done -/
structure BK (adj : Nat → List Nat) (k : Nat) (s : Bf) : Prop where
  b : B0 adj s
  bnd : ∀ (u du : Nat), s.fnd[k]? = some u → s.D u = some du → ∀ (v e : Nat), s.D v = some e → e ≤ du + 1
  clo : ∀ (i w d : Nat), i < k → s.fnd[i]? = some w → s.D w = some d → ∀ v ∈ adj w, ∃ e, s.D v = some e ∧ e ≤ d + 1
theorem node_ok {adj : Nat → List Nat} (hadj : ∀ u, ∀ v ∈ adj u, v < 6) {k : Nat} {s : Bf} (K : BK adj k s) : BK adj (k + 1) (node adj s k) := by
  unfold node
  cases q : s.fnd[k]? with
  | none =>
    have hk : s.fnd.length ≤ k := List.getElem?_eq_none_iff.mp q
    show BK adj (k + 1) s
    exact ⟨K.b, fun u du h => by have := (List.getElem?_eq_some_iff.mp h).1; omega, fun i w d hi h => K.clo i w d (by have := (List.getElem?_eq_some_iff.mp h).1; omega) h⟩
  | some u =>
    obtain ⟨du, hdu⟩ := (K.b.mem u).mpr (List.mem_of_getElem? q)
    obtain ⟨done, h1, J, _⟩ := visits_ok hadj (done := []) ⟨K.b, q, hdu, K.bnd u du q hdu, K.clo, fun v h => by cases h⟩ fun v h => h
    refine ⟨J.b, fun w dw hw hdw v e he => ?_, fun i w d hi hw hd v hv => ?_⟩
    · have h1 := J.bnd v e he
      have h2 := J.b.mono k (k + 1) u w du dw (Nat.le_succ _) J.at_ hw J.hdu hdw
      omega
    · by_cases hik : i = k
      · subst hik
        have : u = w := Option.some.inj (J.at_.symm.trans hw)
        subst this
        obtain ⟨e, he⟩ := J.now v (h1 v hv)
        have hdd := Option.some.inj (J.hdu.symm.trans hd)
        exact ⟨e, he, hdd ▸ J.bnd v e he⟩
      · exact J.clo i w d (by omega) hw hd v hv
theorem bf0_ok (adj : Nat → List Nat) : BK adj 0 bf0 := by
  have one : ∀ {i v : Nat}, ([0] : List Nat)[i]? = some v → i = 0 ∧ v = 0 := fun {i v} h => by
    cases i with
    | zero => cases h; exact ⟨rfl, rfl⟩
    | succ i => cases h
  have dz : ∀ {v e : Nat}, upd O0 0 (some 0) v = some e → v = 0 ∧ e = 0 := fun {v e} h => by
    by_cases z : v = 0
    · rw [z, upd_at] at h; cases h; exact ⟨z, rfl⟩
    · rw [upd_ne _ _ z] at h; cases h
  refine ⟨⟨by simp [bf0], fun v h => by rw [List.mem_singleton.mp h]; decide, rfl, fun v => ⟨fun ⟨e, h⟩ => by rw [(dz h).1]; exact List.mem_cons_self, fun h => ⟨0, by rw [List.mem_singleton.mp h]; rfl⟩⟩, rfl, fun i v h => ?_, fun v h => ⟨upd_ne _ _ fun z => h (by rw [z]; exact List.mem_cons_self), rfl⟩, rfl, fun v h h0 => absurd (List.mem_singleton.mp h) h0, fun i v d h1 h2 => ?_, fun i j v w a b _ _ _ h3 _ => ?_⟩, fun u du _ _ v e h => ?_, fun i w d hi => absurd hi (Nat.not_lt_zero _)⟩
  · obtain ⟨rfl, rfl⟩ := one h; rfl
  · rw [(dz h2).2]; exact Nat.zero_le _
  · rw [(dz h3).2]; exact Nat.zero_le _
  · rw [(dz h).2]; exact Nat.zero_le _
noncomputable def bfs (adj : Nat → List Nat) : Nat → Bf
  | 0 => bf0
  | k + 1 => node adj (bfs adj k) k
theorem bfs_ok {adj : Nat → List Nat} (hadj : ∀ u, ∀ v ∈ adj u, v < 6) : ∀ k, BK adj k (bfs adj k)
  | 0 => bf0_ok adj
  | k + 1 => node_ok hadj (bfs_ok hadj k)
theorem nodup_lt : ∀ {n : Nat} {l : List Nat}, l.Nodup → (∀ v ∈ l, v < n) → l.length ≤ n
  | 0, [], _, _ => Nat.le_refl _
  | 0, v :: l, _, h => absurd (h v List.mem_cons_self) (Nat.not_lt_zero _)
  | n + 1, l, hn, h => by
    have h1 : (l.erase n).length ≤ n := nodup_lt (hn.erase n) fun v hv => by
      have h2 := h v (List.mem_of_mem_erase hv)
      have h3 : v ≠ n := fun z => by subst z; exact (List.Nodup.not_mem_erase hn) hv
      omega
    have h2 := List.length_erase (a := n) (l := l)
    split at h2 <;> omega
theorem B0.len {adj : Nat → List Nat} {s : Bf} (B : B0 adj s) : s.fnd.length ≤ 6 := nodup_lt B.nd B.lt
theorem bfs_sound {adj : Nat → List Nat} {s : Bf} (B : B0 adj s) : ∀ {d v : Nat}, s.D v = some d → Rch adj d v
  | 0, v, h => by
    by_cases z : v = 0
    · rw [z]; exact .zero
    · obtain ⟨u, d, _, _, _, h4⟩ := B.par v ((B.mem v).mp ⟨_, h⟩) z
      rw [h] at h4; cases h4
  | d + 1, v, h => by
    have z : v ≠ 0 := fun z => by rw [z, B.d0] at h; cases h
    obtain ⟨u, d', _, h2, h3, h4⟩ := B.par v ((B.mem v).mp ⟨_, h⟩) z
    rw [h] at h4; cases h4
    exact .step (bfs_sound B h3) h2
theorem bfs_complete {adj : Nat → List Nat} {s : Bf} (K : BK adj 6 s) {n v : Nat} (r : Rch adj n v) : ∃ d, s.D v = some d ∧ d ≤ n := by
  induction r with
  | zero => exact ⟨0, K.b.d0, Nat.le_refl _⟩
  | step _ hv ih =>
    obtain ⟨d, h1, h2⟩ := ih
    obtain ⟨i, hi, e⟩ := List.mem_iff_getElem.mp ((K.b.mem _).mp ⟨d, h1⟩)
    have := K.b.len
    obtain ⟨e', h3, h4⟩ := K.clo i _ d (by omega) (by rw [List.getElem?_eq_getElem hi, e]) h1 _ hv
    exact ⟨e', h3, by omega⟩
/-! shortening ways in a table -/
noncomputable def relax (a : Nat) (F : Nat → Option Nat) (b : Nat) : Nat → Option Nat := match F a with
  | .none => F
  | some d => (match F b with
    | .none => upd F b (some (d + 1))
    | some e => if d + 1 < e then upd F b (some (d + 1)) else F)
noncomputable def rel (adj : Nat → List Nat) (F : Nat → Option Nat) (a : Nat) : Nat → Option Nat := (adj a).foldl (relax a) F
noncomputable def turns (adj : Nat → List Nat) : Nat → Nat → Option Nat
  | 0 => upd O0 0 (some 0)
  | t + 1 => [0, 1, 2, 3, 4, 5].foldl (rel adj) (turns adj t)
noncomputable def Below (F G : Nat → Option Nat) : Prop := ∀ v d, F v = some d → ∃ e, G v = some e ∧ e ≤ d
theorem Below.refl (F : Nat → Option Nat) : Below F F := fun _ d h => ⟨d, h, Nat.le_refl _⟩
theorem Below.trans {F G H : Nat → Option Nat} (h1 : Below F G) (h2 : Below G H) : Below F H := fun v d h => let ⟨e, q1, q2⟩ := h1 v d h; let ⟨f, q3, q4⟩ := h2 v e q1; ⟨f, q3, Nat.le_trans q4 q2⟩
noncomputable def Sound (adj : Nat → List Nat) (F : Nat → Option Nat) : Prop := ∀ v d, F v = some d → Rch adj d v
theorem relax_ok {adj : Nat → List Nat} {a b : Nat} {F : Nat → Option Nat} (S : Sound adj F) (h : b ∈ adj a) : Sound adj (relax a F b) ∧ Below F (relax a F b) ∧ ∀ d, F a = some d → ∃ e, relax a F b b = some e ∧ e ≤ d + 1 := by
  unfold relax
  cases q : F a with
  | none => exact ⟨S, Below.refl F, fun d h => by cases h⟩
  | some d =>
    have up : Sound adj (upd F b (some (d + 1))) := fun v e hv => by
      by_cases z : v = b
      · rw [z, upd_at] at hv; cases hv; rw [z]; exact .step (S a d q) h
      · rw [upd_ne _ _ z] at hv; exact S v e hv
    cases r : F b with
    | none =>
      dsimp only
      refine ⟨up, fun v e hv => ⟨e, ?_, Nat.le_refl _⟩, fun d' hd => ⟨d + 1, upd_at _ _ _, by cases hd; exact Nat.le_refl _⟩⟩
      rw [upd_ne _ _ (fun z => by rw [z, r] at hv; cases hv)]; exact hv
    | some e =>
      dsimp only
      split
      · rename_i hlt
        refine ⟨up, fun v e' hv => ?_, fun d' hd => ⟨d + 1, upd_at _ _ _, by cases hd; exact Nat.le_refl _⟩⟩
        by_cases z : v = b
        · rw [z, r] at hv; cases hv; exact ⟨d + 1, by rw [z, upd_at], Nat.le_of_lt hlt⟩
        · exact ⟨e', by rw [upd_ne _ _ z]; exact hv, Nat.le_refl _⟩
      · exact ⟨S, Below.refl F, fun d' hd => ⟨e, r, by cases hd; omega⟩⟩
theorem rels_ok {adj : Nat → List Nat} {a : Nat} : ∀ {bs : List Nat} {F : Nat → Option Nat}, Sound adj F → (∀ b ∈ bs, b ∈ adj a) → Sound adj (bs.foldl (relax a) F) ∧ Below F (bs.foldl (relax a) F) ∧ ∀ b ∈ bs, ∀ d, F a = some d → ∃ e, bs.foldl (relax a) F b = some e ∧ e ≤ d + 1
  | [], F, S, _ => ⟨S, Below.refl F, fun b h => by cases h⟩
  | b :: bs, F, S, h => by
    obtain ⟨s1, b1, p1⟩ := relax_ok S (h b List.mem_cons_self)
    obtain ⟨s2, b2, p2⟩ := rels_ok (bs := bs) s1 fun c hc => h c (List.mem_cons_of_mem _ hc)
    refine ⟨s2, b1.trans b2, fun c hc d hd => ?_⟩
    rcases List.mem_cons.mp hc with rfl | hc
    · obtain ⟨e, q1, q2⟩ := p1 d hd
      obtain ⟨f, q3, q4⟩ := b2 _ e q1
      exact ⟨f, q3, Nat.le_trans q4 q2⟩
    · obtain ⟨e, q1, q2⟩ := b1 a d hd
      obtain ⟨f, q3, q4⟩ := p2 c hc e q1
      exact ⟨f, q3, by omega⟩
theorem turn_ok {adj : Nat → List Nat} : ∀ {as : List Nat} {F : Nat → Option Nat}, Sound adj F → Sound adj (as.foldl (rel adj) F) ∧ Below F (as.foldl (rel adj) F) ∧ ∀ a ∈ as, ∀ b ∈ adj a, ∀ d, F a = some d → ∃ e, as.foldl (rel adj) F b = some e ∧ e ≤ d + 1
  | [], F, S => ⟨S, Below.refl F, fun b h => by cases h⟩
  | a :: as, F, S => by
    obtain ⟨s1, b1, p1⟩ := rels_ok (a := a) (bs := adj a) S fun _ h => h
    obtain ⟨s2, b2, p2⟩ := turn_ok (as := as) s1
    refine ⟨s2, b1.trans b2, fun c hc b hb d hd => ?_⟩
    rcases List.mem_cons.mp hc with rfl | hc
    · obtain ⟨e, q1, q2⟩ := p1 b hb d hd
      obtain ⟨f, q3, q4⟩ := b2 _ e q1
      exact ⟨f, q3, Nat.le_trans q4 q2⟩
    · obtain ⟨e, q1, q2⟩ := b1 c d hd
      obtain ⟨f, q3, q4⟩ := p2 c hc b hb e q1
      exact ⟨f, q3, by omega⟩
theorem turns_sound {adj : Nat → List Nat} : ∀ t, Sound adj (turns adj t)
  | 0 => fun v d h => by
    by_cases z : v = 0
    · rw [z] at h ⊢
      have : some 0 = some d := h
      cases this; exact .zero
    · have h' : upd O0 0 (some 0) v = some d := h
      rw [upd_ne _ _ z] at h'; cases h'
  | t + 1 => (turn_ok (turns_sound t)).1
theorem turns_complete {adj : Nat → List Nat} (hadj : ∀ u, ∀ v ∈ adj u, v < 6) : ∀ t n v, Rch adj n v → n ≤ t → v < 6 ∧ ∃ e, turns adj t v = some e ∧ e ≤ n
  | 0, n, v, r, h => by
    cases r with
    | zero => exact ⟨by decide, 0, rfl, Nat.le_refl _⟩
    | step => omega
  | t + 1, n, v, r, h => by
    cases r with
    | zero =>
      obtain ⟨h1, e, h2, h3⟩ := turns_complete hadj t 0 0 .zero (Nat.zero_le _)
      obtain ⟨f, q1, q2⟩ := (turn_ok (as := [0, 1, 2, 3, 4, 5]) (turns_sound t)).2.1 0 e h2
      exact ⟨h1, f, q1, Nat.le_trans q2 h3⟩
    | @step m u _ r hv =>
      obtain ⟨h1, e, h2, h3⟩ := turns_complete hadj t m u r (by omega)
      obtain ⟨f, q1, q2⟩ := (turn_ok (as := [0, 1, 2, 3, 4, 5]) (turns_sound t)).2.2 u (by simp; omega) v hv e h2
      exact ⟨hadj u v hv, f, q1, by omega⟩
theorem same_way {adj : Nat → List Nat} (hadj : ∀ u, ∀ v ∈ adj u, v < 6) (v : Nat) : (bfs adj 6).D v = turns adj 5 v := by
  have K := bfs_ok hadj 6
  cases q : (bfs adj 6).D v with
  | none =>
    cases r : turns adj 5 v with
    | none => rfl
    | some e =>
      obtain ⟨d, h, _⟩ := bfs_complete K (turns_sound 5 v e r)
      rw [q] at h; cases h
  | some d =>
    obtain ⟨i, hi, e⟩ := List.mem_iff_getElem.mp ((K.b.mem v).mp ⟨d, q⟩)
    have h1 := K.b.le i v d (by rw [List.getElem?_eq_getElem hi, e]) q
    have h2 := K.b.len
    obtain ⟨_, f, h3, h4⟩ := turns_complete hadj 5 d v (bfs_sound K.b q) (by omega)
    obtain ⟨d', h5, h6⟩ := bfs_complete K (turns_sound 5 v f h3)
    rw [q] at h5; cases h5
    rw [h3]; exact congrArg some (by omega)
--@@
/-! the program's steps -/
noncomputable def oI : Option Nat → AV
  | .none => .none
  | some n => .int (n : Int)
noncomputable def oS : Option Nat → AV
  | .none => .none
  | some n => .ins n
noncomputable def L6 {α : Type} (f : Nat → α) : List α := [f 0, f 1, f 2, f 3, f 4, f 5]
theorem six {k : Nat} (h : k < 6) : k = 0 ∨ k = 1 ∨ k = 2 ∨ k = 3 ∨ k = 4 ∨ k = 5 := by omega
theorem L6_at {α : Type} (f : Nat → α) {k : Nat} (h : k < 6) : (L6 f)[k]? = some (f k) := by rcases six h with rfl | rfl | rfl | rfl | rfl | rfl <;> rfl
theorem L6_set {α : Type} (f : Nat → α) {k : Nat} (h : k < 6) (v : α) : (L6 f).set k v = L6 (upd f k v) := by rcases six h with rfl | rfl | rfl | rfl | rfl | rfl <;> rfl
theorem L6_item (f : Nat → AV) {k : Nat} (h : k < 6) (st : AS) : getItemM (.lst (L6 f)) (.int (k : Int)) st = some (f k, st) := item_lst (by show 6 ≤ _; omega) (L6_at f h) st
theorem upd_upd {α : Type} (f : Nat → α) (k : Nat) (v w : α) : upd (upd f k v) k w = upd f k w := by
  funext i
  unfold upd
  split <;> rfl
theorem upd_self {α : Type} {f : Nat → α} {k : Nat} {v : α} (h : f k = v) : upd f k v = f := by
  funext i
  by_cases z : i = k
  · rw [z, upd_at]; exact h.symm
  · exact upd_ne _ _ z
noncomputable def nmA : Nat → AV
  | 0 => .str ""
  | 1 => .str "b"
  | 2 => .str "c"
  | 3 => .str "d"
  | 4 => .str "e"
  | _ => .str "f"
noncomputable def nums (l : List Nat) : List AV := l.map fun (n : Nat) => AV.int (n : Int)
noncomputable def inss (l : List Nat) : List AV := l.map AV.ins
noncomputable def stA (adj : Nat → List Nat) (sid : Nat → Nat) (v : Nat) : AV := match adj v with
  | [] => .lst []
  | _ => .lob (sid v)
noncomputable def bsA (adj : Nat → List Nat) (tid : Nat → Nat) (v : Nat) : AV := match adj v with
  | [] => .none
  | _ => .lob (tid v)
theorem stA_0 {adj : Nat → List Nat} {sid : Nat → Nat} {v : Nat} (h : adj v = []) : stA adj sid v = .lst [] := by unfold stA; rw [h]
theorem stA_1 {adj : Nat → List Nat} {sid : Nat → Nat} {v : Nat} (h : adj v ≠ []) : stA adj sid v = .lob (sid v) := by
  unfold stA; split
  · exact absurd (by assumption) h
  · rfl
theorem bsA_0 {adj : Nat → List Nat} {sid : Nat → Nat} {v : Nat} (h : adj v = []) : bsA adj sid v = .none := by unfold bsA; rw [h]
theorem bsA_1 {adj : Nat → List Nat} {sid : Nat → Nat} {v : Nat} (h : adj v ≠ []) : bsA adj sid v = .lob (sid v) := by
  unfold bsA; split
  · exact absurd (by assumption) h
  · rfl
noncomputable def insG (adj : Nat → List Nat) (tid : Nat → Nat) (s : Bf) (v : Nat) : Ins := ⟨nmA v, oI (s.D v), oI (s.E v), bsA adj tid v, oS (s.P v)⟩
noncomputable def nones (xs : List AV) : Prop := ∀ x ∈ xs, x = AV.none
structure GH (adj : Nat → List Nat) (sid tid : Nat → Nat) (L : LH) (N m : Nat) : Prop where
  lt : ∀ u, ∀ v ∈ adj u, v < 6
  len : ∀ u, (adj u).length ≤ m
  st : getL1 1 L = some (L6 (stA adj sid))
  s : ∀ u, adj u ≠ [] → getL1 (sid u) L = some (nums (adj u)) ∧ 2 < sid u ∧ sid u < N
  t : ∀ u, adj u ≠ [] → getL1 (tid u) L = some (inss (adj u)) ∧ 2 < tid u ∧ tid u < N
  inj : ∀ u v, adj u ≠ [] → adj v ≠ [] → (sid u = sid v → u = v) ∧ (tid u = tid v → u = v) ∧ sid u ≠ tid v
  pos : 3 ≤ N
  ans : ∃ as, getL1 2 L = some as ∧ nones as ∧ as.length ≤ m
theorem GH.frame {adj : Nat → List Nat} {sid tid : Nat → Nat} {L L' : LH} {N N' m : Nat} (G : GH adj sid tid L N m) (h : ∀ j, j < N → getL1 j L' = getL1 j L) (hN : N ≤ N') : GH adj sid tid L' N' m := by
  have := G.pos
  refine ⟨G.lt, G.len, (h 1 (by omega)).trans G.st, fun u hu => ?_, fun u hu => ?_, G.inj, by omega, ?_⟩
  · obtain ⟨h1, h2, h3⟩ := G.s u hu; exact ⟨(h _ h3).trans h1, h2, by omega⟩
  · obtain ⟨h1, h2, h3⟩ := G.t u hu; exact ⟨(h _ h3).trans h1, h2, by omega⟩
  · obtain ⟨as, h1, h2⟩ := G.ans; exact ⟨as, (h 2 (by omega)).trans h1, h2⟩
theorem nones_app {xs ys : List AV} (h : nones xs) (k : nones ys) : nones (xs ++ ys) := fun x hx => by
  rcases List.mem_append.mp hx with q | q
  · exact h x q
  · exact k x q
theorem one_none : nones [.none] := fun x hx => List.mem_singleton.mp hx
/-- one answer more, or some -/
theorem GH.say {adj : Nat → List Nat} {sid tid : Nat → Nat} {L : LH} {N m : Nat} (G : GH adj sid tid L N m) (ys : List AV) (hy : nones ys) : ∃ as, getL1 2 L = some as ∧ as.length ≤ m ∧ GH adj sid tid (putL1 2 (as ++ ys) L) N (m + ys.length) := by
  obtain ⟨as, h1, h2, h3⟩ := G.ans
  refine ⟨as, h1, h3, ⟨G.lt, fun u => Nat.le_trans (G.len u) (Nat.le_add_right _ _), (get_put_ne (by decide) L).trans G.st, fun u hu => ?_, fun u hu => ?_, G.inj, G.pos, ⟨as ++ ys, get_put_self h1, nones_app h2 hy, by rw [List.length_append]; omega⟩⟩⟩
  · obtain ⟨q1, q2, q3⟩ := G.s u hu; exact ⟨(get_put_ne (by omega) L).trans q1, q2, q3⟩
  · obtain ⟨q1, q2, q3⟩ := G.t u hu; exact ⟨(get_put_ne (by omega) L).trans q1, q2, q3⟩
theorem asg_is {f : Cm AV} {g : AV → Cm Unit} {st st1 st2 : AS} {v : AV} (h1 : f st = some (v, st1)) (h2 : g v st1 = some ((), st2)) : asgM f g st = some (.next, st2) := by rw [asgM, bd_is h1, bd_is h2]; rfl
theorem drop_is {f : Cm AV} {st st1 : AS} {v : AV} (h1 : f st = some (v, st1)) : dropM f st = some (.next, st1) := by rw [dropM, bd_is h1]; rfl
theorem eq_lists {st : AS} {d : Nat} {x y : AV} {xs ys : List AV} {q1 q2 : AS} (hx : itemsM x st = some (xs, q1)) (hy : itemsM y st = some (ys, q2)) : eqF st (d + 1) x y = if xs.length = ys.length then eqAll (eqF st d) xs ys else some false := by
  rw [eqF]; simp only [items_sc hx, hx, hy]
theorem cons_is {f : Cm AV} {st st1 : AS} {v : AV} (h1 : f st = some (v, st1)) : consM f (pu []) st = some ([v], st1) := by rw [consM, bd_is h1]; rfl
theorem app_is {o : Nat} {xs : List AV} {v : AV} {L : LH} (h : getL1 o L = some xs) (hl : xs.length ≤ 90000) (loc : List AV) (I : List Ins) (N : Nat) : appendM (.lob o) [v] ⟨loc, I, L, N⟩ = some (.none, ⟨loc, I, putL1 o (xs ++ [v]) L, N⟩) := by
  simp only [appendM, h]
  rw [if_pos (by omega)]
theorem ext_is {o : Nat} {xs ys : List AV} {L : LH} (h : getL1 o L = some xs) (hl : xs.length + ys.length ≤ 90000) (loc : List AV) (I : List Ins) (N : Nat) : extendM (.lob o) [.lst ys] ⟨loc, I, L, N⟩ = some (.none, ⟨loc, I, putL1 o (xs ++ ys) L, N⟩) := by
  simp only [extendM, h, itemsM]
  rw [if_pos (by omega)]
theorem lmeth_is {fo fx : Cm AV} {F : AV → List AV → Cm AV} {st st1 st2 : AS} {o : Nat} {xs : List AV} {v w : AV} (h0 : fo st = some (.lob o, st)) (hc : getL1 o st.lst = some xs) (h1 : fx st = some (v, st1)) (h2 : F (.lob o) [v] st1 = some (w, st2)) : lmethM fo (consM fx (pu [])) F st = some (w, st2) := by
  rw [lmethM, bd_is h0, bd_is (st1 := st) (a := ()) (by simp only [chkL, itemsM, hc]), bd_is (cons_is h1)]
  exact h2
theorem meth_is {fo : Cm AV} {fs : Cm (List AV)} {F : List AV → Cm AV} {st st1 st2 : AS} {k : Nat} {ys : List AV} {w : AV} (h0 : fo st = some (.ins k, st)) (h1 : fs st = some (ys, st1)) (h2 : callM F (.ins k :: ys) st1 = some (w, st2)) : methM fo fs F st = some (w, st2) := by
  rw [methM, bd_is h0]
  exact (bd_is h1).trans h2
theorem set_is {k : Nat} (g : Nat → Ins) (hk : k < 6) (f : Fd) (v : AV) (loc : List AV) (L : LH) (N : Nat) : callM (setF f) [.ins k, v] ⟨loc, L6 g, L, N⟩ = some (.none, ⟨loc, L6 (upd g k ((g k).put v f)), L, N⟩) := by
  simp only [callM, setF, bd, putM, L6_at g hk, L6_set g hk, pu]
theorem get_is {k : Nat} (g : Nat → Ins) (hk : k < 6) (f : Fd) (loc : List AV) (L : LH) (N : Nat) : callM (getF f) [.ins k] ⟨loc, L6 g, L, N⟩ = some ((g k).get f, ⟨loc, L6 g, L, N⟩) := by
  simp only [callM, getF, attrM, L6_at g hk]
theorem set_item {o k : Nat} {f : Nat → AV} {L : LH} (h : getL1 o L = some (L6 f)) (hk : k < 6) (v : AV) (loc : List AV) (I : List Ins) (N : Nat) : setItemM (.lob o) (.int (k : Int)) v ⟨loc, I, L, N⟩ = some ((), ⟨loc, I, putL1 o (L6 (upd f k v)) L, N⟩) := by
  simp only [setItemM, AV.int?, AV.lob?, h]
  rw [if_pos ⟨by omega, by show (k : Int) < (6 : Nat); omega, by show 6 ≤ _; omega⟩]
  exact congrArg (fun z => some ((), (⟨loc, I, putL1 o z L, N⟩ : AS))) (L6_set f hk v)
theorem lob_item {o k : Nat} {f : Nat → AV} {L : LH} (h : getL1 o L = some (L6 f)) (hk : k < 6) (loc : List AV) (I : List Ins) (N : Nat) : getItemM (.lob o) (.int (k : Int)) ⟨loc, I, L, N⟩ = some (f k, ⟨loc, I, L, N⟩) :=
  item_lob h (by show 6 ≤ _; omega) (L6_at f hk) loc I N
theorem and_t {f g : Cm Bool} {st st1 : AS} (h : f st = some (true, st1)) : andM f g st = g st1 := by rw [andM, bd_is h]; rfl
theorem and_f {f g : Cm Bool} {st st1 : AS} (h : f st = some (false, st1)) : andM f g st = some (false, st1) := by rw [andM, bd_is h]; rfl
theorem or_t {f g : Cm Bool} {st st1 : AS} (h : f st = some (true, st1)) : orM f g st = some (true, st1) := by rw [orM, bd_is h]; rfl
theorem or_f {f g : Cm Bool} {st st1 : AS} (h : f st = some (false, st1)) : orM f g st = g st1 := by rw [orM, bd_is h]; rfl
noncomputable def loc5 (s x a b : AV) : List AV := [s, .lst (L6 nmA), .lst (L6 AV.ins), .int 5, x, .unb, .lob 1, .lob 2, .unb, .unb, .unb, .unb, a, b, .unb, .unb]
section
variable {s : AV} {x : Int} {a b N m : Nat} {adj : Nat → List Nat} {sid tid : Nat → Nat} {L : LH} {I : List Ins} {g : Nat → Ins}
theorem s121 {A B : AV} : S12_1 ⟨loc5 s (.int x) A B, I, L, N⟩ = some (.next, ⟨loc5 s (.int x) (.int (x % 6)) (.int (x / 6 % 6)), I, L, N⟩) := rfl
/-- all is as it was but the successors of a -/
theorem GH.clear (G : GH adj sid tid L N m) (ha : a < 6) : GH (upd adj a []) sid tid (putL1 1 (L6 (upd (stA adj sid) a (.lst []))) L) N m := by
  have ne : ∀ {u}, upd adj a [] u ≠ [] → u ≠ a ∧ adj u ≠ [] ∧ upd adj a [] u = adj u := fun {u} h => by
    by_cases z : u = a
    · rw [z, upd_at] at h; exact absurd rfl h
    · rw [upd_ne _ _ z] at h; exact ⟨z, h, upd_ne _ _ z⟩
  refine ⟨fun u v hv => ?_, fun u => ?_, ?_, fun u hu => ?_, fun u hu => ?_, fun u v hu hv => G.inj u v (ne hu).2.1 (ne hv).2.1, G.pos, ?_⟩
  · by_cases z : u = a
    · rw [z, upd_at] at hv; cases hv
    · rw [upd_ne _ _ z] at hv; exact G.lt u v hv
  · by_cases z : u = a
    · rw [z, upd_at]; exact Nat.zero_le _
    · rw [upd_ne _ _ z]; exact G.len u
  · rw [get_put_self G.st]
    congr 2
    funext u
    by_cases z : u = a
    · rw [z, upd_at, stA_0 (upd_at _ _ _)]
    · rw [upd_ne _ _ z]; unfold stA; rw [upd_ne _ _ z]
  · obtain ⟨z, h, e⟩ := ne hu
    obtain ⟨h1, h2, h3⟩ := G.s u h
    rw [e]; exact ⟨(get_put_ne (by omega) L).trans h1, h2, h3⟩
  · obtain ⟨z, h, e⟩ := ne hu
    obtain ⟨h1, h2, h3⟩ := G.t u h
    rw [e]; exact ⟨(get_put_ne (by omega) L).trans h1, h2, h3⟩
  · obtain ⟨as, h1, h2⟩ := G.ans
    exact ⟨as, (get_put_ne (by decide) L).trans h1, h2⟩
end
--@@
noncomputable def bE : Bf := ⟨[], O0, O0, O0⟩
section
variable {s : AV} {x : Int} {a b N m : Nat} {adj : Nat → List Nat} {sid tid : Nat → Nat} {L : LH} {I : List Ins} {g : Nat → Ins}
theorem upd_eq {α : Type} {f h : Nat → α} {k : Nat} (h1 : f k = h k) (h2 : ∀ i, i ≠ k → f i = h i) : f = h := by
  funext i
  by_cases z : i = k
  · rw [z]; exact h1
  · exact h2 i z
theorem ins_upd {adj' : Nat → List Nat} {tid' : Nat → Nat} {bf : Bf} {v : AV} (h1 : bsA adj' tid' a = v) (h2 : ∀ i, i ≠ a → adj' i = adj i ∧ tid' i = tid i) : upd (insG adj tid bf) a ((insG adj tid bf a).put v .byt) = insG adj' tid' bf := by
  refine upd_eq (k := a) ?_ fun i hi => ?_
  · rw [upd_at]; unfold insG; rw [h1]; rfl
  · rw [upd_ne _ _ hi]; unfold insG bsA; rw [(h2 i hi).1, (h2 i hi).2]
/-- a first step from a -/
theorem GH.first (G : GH adj sid tid L N m) (ha : a < 6) (hb : b < 6) (h0 : adj a = []) (hm : 1 ≤ m) :
    GH (upd adj a [b]) (upd sid a N) (upd tid a (N + 1)) (pushL1 (N + 1) [.ins b] (putL1 1 (L6 (upd (stA adj sid) a (.lob N))) (pushL1 N [.int (b : Int)] L))) (N + 2) m := by
  have p := G.pos
  have e1 : getL1 1 (pushL1 N [.int (b : Int)] L) = some (L6 (stA adj sid)) := (get_push_ne (by omega) L).trans G.st
  have low : ∀ j, j ≠ 1 → j < N → getL1 j (pushL1 (N + 1) [.ins b] (putL1 1 (L6 (upd (stA adj sid) a (.lob N))) (pushL1 N [.int (b : Int)] L))) = getL1 j L := fun j h1 h2 => by
    rw [get_push_ne (by omega), get_put_ne h1, get_push_ne (by omega)]
  have ne : ∀ {u}, u ≠ a → upd adj a [b] u = adj u ∧ upd sid a N u = sid u ∧ upd tid a (N + 1) u = tid u := fun h => ⟨upd_ne _ _ h, upd_ne _ _ h, upd_ne _ _ h⟩
  have at_ : upd adj a [b] a = [b] ∧ upd sid a N a = N ∧ upd tid a (N + 1) a = N + 1 := ⟨upd_at _ _ _, upd_at _ _ _, upd_at _ _ _⟩
  refine ⟨fun u v hv => ?_, fun u => ?_, ?_, fun u hu => ?_, fun u hu => ?_, fun u v hu hv => ?_, by omega, ?_⟩
  · by_cases z : u = a
    · rw [z, at_.1] at hv; rw [List.mem_singleton.mp hv]; exact hb
    · rw [(ne z).1] at hv; exact G.lt u v hv
  · by_cases z : u = a
    · rw [z, at_.1]; exact hm
    · rw [(ne z).1]; exact G.len u
  · rw [get_push_ne (by omega), get_put_self e1]
    refine congrArg (fun f => some (L6 f)) (upd_eq (k := a) ?_ fun u z => ?_)
    · rw [upd_at, stA_1 (by rw [at_.1]; exact List.cons_ne_nil _ _), at_.2.1]
    · rw [upd_ne _ _ z]; unfold stA; rw [(ne z).1, (ne z).2.1]
  · by_cases z : u = a
    · rw [z, at_.1, at_.2.1, get_push_ne (by omega), get_put_ne (by omega)]
      exact ⟨get_push_self L, by omega, by omega⟩
    · rw [(ne z).1] at hu ⊢
      obtain ⟨h1, h2, h3⟩ := G.s u hu
      rw [(ne z).2.1]; exact ⟨(low _ (by omega) h3).trans h1, h2, by omega⟩
  · by_cases z : u = a
    · rw [z, at_.1, at_.2.2]
      exact ⟨get_push_self _, by omega, by omega⟩
    · rw [(ne z).1] at hu ⊢
      obtain ⟨h1, h2, h3⟩ := G.t u hu
      rw [(ne z).2.2]; exact ⟨(low _ (by omega) h3).trans h1, h2, by omega⟩
  · by_cases z : u = a
    · by_cases w : v = a
      · rw [z, w, at_.2.1, at_.2.2]; exact ⟨fun _ => rfl, fun _ => rfl, by omega⟩
      · rw [(ne w).1] at hv
        have h1 := (G.s v hv).2.2
        have h2 := (G.t v hv).2.2
        rw [z, at_.2.1, at_.2.2, (ne w).2.1, (ne w).2.2]; exact ⟨fun h => by omega, fun h => by omega, by omega⟩
    · rw [(ne z).1] at hu
      have h1 := (G.s u hu).2.2
      have h2 := (G.t u hu).2.2
      by_cases w : v = a
      · rw [w, at_.2.1, at_.2.2, (ne z).2.1, (ne z).2.2]; exact ⟨fun h => by omega, fun h => by omega, by omega⟩
      · rw [(ne w).1] at hv
        rw [(ne z).2.1, (ne z).2.2, (ne w).2.1, (ne w).2.2]; exact G.inj u v hu hv
  · obtain ⟨as, h1, h2⟩ := G.ans
    exact ⟨as, (low 2 (by decide) (by omega)).trans h1, h2⟩
/-- one more -/
theorem GH.more (G : GH adj sid tid L N m) (hb : b < 6) (h0 : adj a ≠ []) :
    GH (upd adj a (adj a ++ [b])) sid tid (putL1 (tid a) (inss (adj a) ++ [.ins b]) (putL1 (sid a) (nums (adj a) ++ [.int (b : Int)]) L)) N (m + 1) := by
  obtain ⟨s1, s2, s3⟩ := G.s a h0
  obtain ⟨t1, t2, t3⟩ := G.t a h0
  have ij := G.inj a a h0 h0
  have ne : ∀ {u}, u ≠ a → upd adj a (adj a ++ [b]) u = adj u := fun h => upd_ne _ _ h
  have at_ : upd adj a (adj a ++ [b]) a = adj a ++ [b] := upd_at _ _ _
  have un : ∀ {u}, upd adj a (adj a ++ [b]) u ≠ [] → adj u ≠ [] := fun {u} h => by
    by_cases z : u = a
    · rw [z]; exact h0
    · rw [ne z] at h; exact h
  have same : ∀ j, j ≠ sid a → j ≠ tid a → getL1 j (putL1 (tid a) (inss (adj a) ++ [.ins b]) (putL1 (sid a) (nums (adj a) ++ [.int (b : Int)]) L)) = getL1 j L := fun j h1 h2 => by
    rw [get_put_ne h2, get_put_ne h1]
  refine ⟨fun u v hv => ?_, fun u => ?_, ?_, fun u hu => ?_, fun u hu => ?_, fun u v hu hv => G.inj u v (un hu) (un hv), G.pos, ?_⟩
  · by_cases z : u = a
    · rw [z, at_] at hv
      rcases List.mem_append.mp hv with h | h
      · exact G.lt a v h
      · rw [List.mem_singleton.mp h]; exact hb
    · rw [ne z] at hv; exact G.lt u v hv
  · by_cases z : u = a
    · rw [z, at_, List.length_append]; exact Nat.add_le_add_right (G.len a) 1
    · rw [ne z]; exact Nat.le_succ_of_le (G.len u)
  · rw [same 1 (by omega) (by omega), G.st]
    refine congrArg (fun f => some (L6 f)) (upd_eq (k := a) ?_ fun u z => ?_)
    · rw [stA_1 h0, stA_1 (by rw [at_]; simp)]
    · unfold stA; rw [ne z]
  · by_cases z : u = a
    · rw [z, at_, get_put_ne ij.2.2, get_put_self s1]
      exact ⟨by simp [nums], s2, s3⟩
    · rw [ne z] at hu ⊢
      obtain ⟨h1, h2, h3⟩ := G.s u hu
      exact ⟨(same _ (fun q => z ((G.inj u a hu h0).1 q)) (G.inj u a hu h0).2.2).trans h1, h2, h3⟩
  · by_cases z : u = a
    · have t1' : getL1 (tid a) (putL1 (sid a) (nums (adj a) ++ [.int (b : Int)]) L) = some (inss (adj a)) := (get_put_ne (fun q => ij.2.2 q.symm) L).trans t1
      rw [z, at_, get_put_self t1']
      exact ⟨by simp [inss], t2, t3⟩
    · rw [ne z] at hu ⊢
      obtain ⟨h1, h2, h3⟩ := G.t u hu
      exact ⟨(same _ (fun q => (G.inj a u h0 hu).2.2 q.symm) (fun q => z ((G.inj u a hu h0).2.1 q))).trans h1, h2, h3⟩
  · obtain ⟨as, h1, h2, h3⟩ := G.ans
    exact ⟨as, (same 2 (by omega) (by omega)).trans h1, h2, by omega⟩
/-- a source loses its list -/
theorem step11 (G : GH adj sid tid L N m) (hm : m ≤ 900) (ha : a < 6) : ∃ adj' sid' tid' L' N', B_law_11 ⟨loc5 s (.int x) (.int (a : Int)) (.int (b : Int)), L6 (insG adj tid bE), L, N⟩ = some (.next, ⟨loc5 s (.int x) (.int (a : Int)) (.int (b : Int)), L6 (insG adj' tid' bE), L', N'⟩) ∧ GH adj' sid' tid' L' N' (m + 1) := by
  obtain ⟨as, h1, h2, h3⟩ := (G.clear ha).say [.none] one_none
  refine ⟨upd adj a [], sid, tid, _, N, ?_, h3⟩
  have e1 : S13_1 ⟨loc5 s (.int x) (.int (a : Int)) (.int (b : Int)), L6 (insG adj tid bE), L, N⟩ = some (.next, ⟨loc5 s (.int x) (.int (a : Int)) (.int (b : Int)), L6 (insG adj tid bE), putL1 1 (L6 (upd (stA adj sid) a (.lst []))) L, N⟩) :=
    asg_is (v := .lst []) rfl (set_item G.st ha (.lst []) _ _ _)
  have e2 := set_is (insG adj tid bE) ha .byt .none (loc5 s (.int x) (.int (a : Int)) (.int (b : Int))) (putL1 1 (L6 (upd (stA adj sid) a (.lst []))) L) N
  rw [ins_upd (adj' := upd adj a []) (tid' := tid) (bsA_0 (upd_at _ _ _)) fun i hi => ⟨upd_ne _ _ hi, rfl⟩] at e2
  have e3 : S13_2 _ = _ := drop_is (lmeth_is (st := ⟨loc5 s (.int x) (.int (a : Int)) (.int (b : Int)), L6 (insG adj tid bE), putL1 1 (L6 (upd (stA adj sid) a (.lst []))) L, N⟩) rfl h1 (meth_is (L6_item AV.ins ha _) rfl e2) (app_is h1 (by omega) _ _ _))
  exact (then_next e1).trans ((then_next e3).trans rfl)
/-- a first step -/
theorem step12 (G : GH adj sid tid L N m) (hm : m ≤ 900) (h1m : 1 ≤ m) (ha : a < 6) (hb : b < 6) (h0 : adj a = []) : ∃ adj' sid' tid' L' N', B_law_12 ⟨loc5 s (.int x) (.int (a : Int)) (.int (b : Int)), L6 (insG adj tid bE), L, N⟩ = some (.next, ⟨loc5 s (.int x) (.int (a : Int)) (.int (b : Int)), L6 (insG adj' tid' bE), L', N'⟩) ∧ GH adj' sid' tid' L' N' (m + 1) := by
  obtain ⟨as, h1, h2, h3⟩ := (G.first ha hb h0 h1m).say [.none] one_none
  refine ⟨_, _, _, _, N + 2, ?_, h3⟩
  have p := G.pos
  have q1 : getL1 1 (pushL1 N [.int (b : Int)] L) = some (L6 (stA adj sid)) := (get_push_ne (by omega) L).trans G.st
  have e1 : S15_1 ⟨loc5 s (.int x) (.int (a : Int)) (.int (b : Int)), L6 (insG adj tid bE), L, N⟩ = some (.next, ⟨loc5 s (.int x) (.int (a : Int)) (.int (b : Int)), L6 (insG adj tid bE), putL1 1 (L6 (upd (stA adj sid) a (.lob N))) (pushL1 N [.int (b : Int)] L), N + 1⟩) :=
    asg_is (v := .lob N) rfl (set_item q1 ha (.lob N) _ _ _)
  have q2 : getL1 2 (putL1 1 (L6 (upd (stA adj sid) a (.lob N))) (pushL1 N [.int (b : Int)] L)) = some as := (get_push_ne (show 2 ≠ N + 1 by omega) _).symm.trans h1
  have e2 := set_is (insG adj tid bE) ha .byt (.lob (N + 1)) (loc5 s (.int x) (.int (a : Int)) (.int (b : Int))) (pushL1 (N + 1) [.ins b] (putL1 1 (L6 (upd (stA adj sid) a (.lob N))) (pushL1 N [.int (b : Int)] L))) (N + 2)
  rw [ins_upd (adj' := upd adj a [b]) (tid' := upd tid a (N + 1)) (by rw [bsA_1 (by rw [upd_at]; exact List.cons_ne_nil _ _), upd_at]) fun i hi => ⟨upd_ne _ _ hi, upd_ne _ _ hi⟩] at e2
  have e4 : consM (bd (consM (bin2 (var 2) (var 13) getItemM) (pu [])) newLob) (pu []) ⟨loc5 s (.int x) (.int (a : Int)) (.int (b : Int)), L6 (insG adj tid bE), putL1 1 (L6 (upd (stA adj sid) a (.lob N))) (pushL1 N [.int (b : Int)] L), N + 1⟩ = some ([.lob (N + 1)], ⟨loc5 s (.int x) (.int (a : Int)) (.int (b : Int)), L6 (insG adj tid bE), pushL1 (N + 1) [.ins b] (putL1 1 (L6 (upd (stA adj sid) a (.lob N))) (pushL1 N [.int (b : Int)] L)), N + 2⟩) :=
    cons_is ((bd_is (cons_is (L6_item AV.ins hb _))).trans rfl)
  have e3 : S15_2 _ = _ := drop_is (lmeth_is (st := ⟨loc5 s (.int x) (.int (a : Int)) (.int (b : Int)), L6 (insG adj tid bE), putL1 1 (L6 (upd (stA adj sid) a (.lob N))) (pushL1 N [.int (b : Int)] L), N + 1⟩) rfl q2 (meth_is (L6_item AV.ins ha _) e4 e2) (app_is h1 (by omega) _ _ _))
  exact (then_next e1).trans ((then_next e3).trans rfl)
/-- one more step -/
theorem step13 (G : GH adj sid tid L N m) (hm : m ≤ 900) (ha : a < 6) (hb : b < 6) (h0 : adj a ≠ []) : ∃ adj' sid' tid' L' N', B_law_13 ⟨loc5 s (.int x) (.int (a : Int)) (.int (b : Int)), L6 (insG adj tid bE), L, N⟩ = some (.next, ⟨loc5 s (.int x) (.int (a : Int)) (.int (b : Int)), L6 (insG adj' tid' bE), L', N'⟩) ∧ GH adj' sid' tid' L' N' (m + 1) := by
  refine ⟨_, sid, tid, _, N, ?_, G.more hb h0⟩
  have hl := G.len a
  obtain ⟨s1, s2, s3⟩ := G.s a h0
  obtain ⟨t1, t2, t3⟩ := G.t a h0
  have e1 : S16_1 ⟨loc5 s (.int x) (.int (a : Int)) (.int (b : Int)), L6 (insG adj tid bE), L, N⟩ = some (.next, ⟨loc5 s (.int x) (.int (a : Int)) (.int (b : Int)), L6 (insG adj tid bE), putL1 (sid a) (nums (adj a) ++ [.int (b : Int)]) L, N⟩) :=
    drop_is (lmeth_is ((lob_item G.st ha _ _ _).trans (by rw [stA_1 h0])) s1 rfl (app_is s1 (by rw [show (nums (adj a)).length = (adj a).length from List.length_map ..]; omega) _ _ _))
  have t1' : getL1 (tid a) (putL1 (sid a) (nums (adj a) ++ [.int (b : Int)]) L) = some (inss (adj a)) := (get_put_ne (fun q => (G.inj a a h0 h0).2.2 q.symm) L).trans t1
  have g1 := get_is (insG adj tid bE) ha .byt (loc5 s (.int x) (.int (a : Int)) (.int (b : Int))) (putL1 (sid a) (nums (adj a) ++ [.int (b : Int)]) L) N
  have g2 : (insG adj tid bE a).get .byt = .lob (tid a) := bsA_1 h0
  rw [g2] at g1
  have e2 : S16_2 _ = _ := drop_is (lmeth_is (st := ⟨loc5 s (.int x) (.int (a : Int)) (.int (b : Int)), L6 (insG adj tid bE), putL1 (sid a) (nums (adj a) ++ [.int (b : Int)]) L, N⟩) (meth_is (L6_item AV.ins ha _) rfl g1) t1' (L6_item AV.ins hb _) (app_is t1' (by rw [show (inss (adj a)).length = (adj a).length from List.length_map ..]; omega) _ _ _))
  have e3 : insG (upd adj a (adj a ++ [b])) tid bE = insG adj tid bE := by
    refine upd_eq (k := a) ?_ fun i hi => ?_
    · unfold insG; rw [bsA_1 h0, bsA_1 (by rw [upd_at]; simp)]
    · unfold insG bsA; rw [upd_ne _ _ hi]
  rw [e3]
  exact (then_next e1).trans ((then_next e2).trans rfl)
theorem step5 {A B : AV} (G : GH adj sid tid L N m) (hm : m ≤ 900) (h1m : 1 ≤ m) : ∃ A' B' adj' sid' tid' L' N', B_law_15 ⟨loc5 s (.int x) A B, L6 (insG adj tid bE), L, N⟩ = some (.next, ⟨loc5 s (.int x) A' B', L6 (insG adj' tid' bE), L', N'⟩) ∧ GH adj' sid' tid' L' N' (m + 1) := by
  obtain ⟨a, ha, ea⟩ : ∃ a : Nat, a < 6 ∧ x % 6 = (a : Int) := ⟨(x % 6).toNat, by omega, by omega⟩
  obtain ⟨b, hb, eb⟩ : ∃ b : Nat, b < 6 ∧ x / 6 % 6 = (b : Int) := ⟨(x / 6 % 6).toNat, by omega, by omega⟩
  have e1 := s121 (s := s) (x := x) (A := A) (B := B) (L := L) (I := L6 (insG adj tid bE)) (N := N)
  rw [ea, eb] at e1
  suffices h : ∃ adj' sid' tid' L' N', S12_2 ⟨loc5 s (.int x) (.int (a : Int)) (.int (b : Int)), L6 (insG adj tid bE), L, N⟩ = some (.next, ⟨loc5 s (.int x) (.int (a : Int)) (.int (b : Int)), L6 (insG adj' tid' bE), L', N'⟩) ∧ GH adj' sid' tid' L' N' (m + 1) by
    obtain ⟨adj', sid', tid', L', N', e2, G'⟩ := h
    exact ⟨_, _, adj', sid', tid', L', N', (then_next e1).trans ((then_next e2).trans rfl), G'⟩
  have t1 : cmp2 (bin2 (bin2 (var 4) (pu (.int 36)) divM) (pu (.int 5)) modM) (pu (.int 4)) eqM ⟨loc5 s (.int x) (.int (a : Int)) (.int (b : Int)), L6 (insG adj tid bE), L, N⟩ = some (x / 36 % 5 == 4, ⟨loc5 s (.int x) (.int (a : Int)) (.int (b : Int)), L6 (insG adj tid bE), L, N⟩) := rfl
  cases q : (x / 36 % 5 == 4) with
  | true =>
    obtain ⟨adj', sid', tid', L', N', e2, G'⟩ := step11 (s := s) (x := x) (b := b) G hm ha
    rw [q] at t1
    exact ⟨adj', sid', tid', L', N', (ite_t t1).trans e2, G'⟩
  | false =>
    rw [q] at t1
    have i1 := lob_item G.st ha (loc5 s (.int x) (.int (a : Int)) (.int (b : Int))) (L6 (insG adj tid bE)) N
    by_cases h0 : adj a = []
    · obtain ⟨adj', sid', tid', L', N', e2, G'⟩ := step12 (s := s) (x := x) G hm h1m ha hb h0
      rw [stA_0 h0] at i1
      have t2 : cmp2 (bin2 (var 6) (var 12) getItemM) (bd (pu []) lstM) eqM ⟨loc5 s (.int x) (.int (a : Int)) (.int (b : Int)), L6 (insG adj tid bE), L, N⟩ = some (true, ⟨loc5 s (.int x) (.int (a : Int)) (.int (b : Int)), L6 (insG adj tid bE), L, N⟩) := (bd_is i1).trans rfl
      have e3 : S14_1 _ = _ := (ite_t t2).trans e2
      exact ⟨adj', sid', tid', L', N', (ite_f t1).trans ((then_next e3).trans rfl), G'⟩
    · obtain ⟨adj', sid', tid', L', N', e2, G'⟩ := step13 (s := s) (x := x) G hm ha hb h0
      rw [stA_1 h0] at i1
      have e0 : eqM (.lob (sid a)) (.lst []) ⟨loc5 s (.int x) (.int (a : Int)) (.int (b : Int)), L6 (insG adj tid bE), L, N⟩ = some (false, ⟨loc5 s (.int x) (.int (a : Int)) (.int (b : Int)), L6 (insG adj tid bE), L, N⟩) := by
        have h2 : (nums (adj a)).length ≠ 0 := by rw [show (nums (adj a)).length = (adj a).length from List.length_map ..]; exact fun z => h0 (List.length_eq_zero_iff.mp z)
        simp only [eqM, eqF, AV.sc, itemsM, (G.s a h0).1, List.length_nil, if_neg h2]
      have t2 : cmp2 (bin2 (var 6) (var 12) getItemM) (bd (pu []) lstM) eqM ⟨loc5 s (.int x) (.int (a : Int)) (.int (b : Int)), L6 (insG adj tid bE), L, N⟩ = some (false, ⟨loc5 s (.int x) (.int (a : Int)) (.int (b : Int)), L6 (insG adj tid bE), L, N⟩) := (bd_is i1).trans ((bd_is rfl).trans e0)
      have e3 : S14_1 _ = _ := (ite_f t2).trans e2
      exact ⟨adj', sid', tid', L', N', (ite_f t1).trans ((then_next e3).trans rfl), G'⟩
theorem steps5 {s : AV} : ∀ (xs : List Int) {x0 A B : AV} {adj : Nat → List Nat} {sid tid : Nat → Nat} {L : LH} {N m : Nat}, GH adj sid tid L N m → m + xs.length ≤ 900 → 1 ≤ m →
    ∃ x' A' B' adj' sid' tid' L' N', forG nxL (setV 4) B_law_15 (xs.length + 1) (xs.map .int) ⟨loc5 s x0 A B, L6 (insG adj tid bE), L, N⟩ = some (.next, ⟨loc5 s x' A' B', L6 (insG adj' tid' bE), L', N'⟩) ∧ GH adj' sid' tid' L' N' (m + xs.length)
  | [], x0, A, B, adj, sid, tid, L, N, m, G, _, _ => ⟨x0, A, B, adj, sid, tid, L, N, rfl, G⟩
  | x :: xs, x0, A, B, adj, sid, tid, L, N, m, G, h1, h2 => by
    rw [List.length_cons] at h1
    obtain ⟨A1, B1, adj1, sid1, tid1, L1, N1, e1, G1⟩ := step5 (s := s) (x := x) (A := A) (B := B) G (by omega) h2
    obtain ⟨x', A', B', adj', sid', tid', L', N', e2, G2⟩ := steps5 (s := s) xs (x0 := .int x) (A := A1) (B := B1) G1 (by omega) (by omega)
    refine ⟨x', A', B', adj', sid', tid', L', N', ?_, by rw [List.length_cons, show m + (xs.length + 1) = m + 1 + xs.length by omega]; exact G2⟩
    exact (forL_cons (st1 := ⟨loc5 s (.int x) A B, L6 (insG adj tid bE), L, N⟩) rfl e1).trans e2
end
--@@
noncomputable def locS (N : Nat) (k v w : AV) : List AV := [.lst (L6 AV.ins), .lob N, .lob (N + 1), k, v, w]
noncomputable def seg2 (N : Nat) (f a : List AV) (L : LH) : LH := [(N + 1, f), (N, a)] :: L
section
variable {N k u v du : Nat} {f a f' a' : List AV} {L : LH} {bf : Bf} {adj : Nat → List Nat} {tid : Nat → Nat} {w : AV}
theorem seg_f : getL1 (N + 1) (seg2 N f a L) = some f := by simp [seg2, getL1, lookL]
theorem seg_a : getL1 N (seg2 N f a L) = some a := by simp [seg2, getL1, lookL]
theorem seg_t {t : Nat} (h : t < N) : getL1 t (seg2 N f a L) = getL1 t L := by simp [seg2, getL1, lookL, show t ≠ N + 1 by omega, show t ≠ N by omega]
theorem seg_pf : putL1 (N + 1) f' (seg2 N f a L) = seg2 N f' a L := by simp [seg2, putL1, lookL, putSeg]
theorem seg_pa : putL1 N a' (seg2 N f a L) = seg2 N f a' L := by simp [seg2, putL1, lookL, putSeg]
theorem inss_at {l : List Nat} (h : l[k]? = some u) : (inss l)[k]? = some (.ins u) := by unfold inss; rw [List.getElem?_map, h]; rfl
theorem cons3 {f1 f2 f3 : Cm AV} {v1 v2 v3 : AV} {st st1 st2 st3 : AS} (h1 : f1 st = some (v1, st1)) (h2 : f2 st1 = some (v2, st2)) (h3 : f3 st2 = some (v3, st3)) : bd (consM f1 (consM f2 (consM f3 (pu [])))) lstM st = some (.lst [v1, v2, v3], st3) := by
  have e : consM f1 (consM f2 (consM f3 (pu []))) st = some ([v1, v2, v3], st3) := by
    rw [consM, bd_is h1, bd_is (show consM f2 (consM f3 (pu [])) st1 = some ([v2, v3], st3) by rw [consM, bd_is h2, bd_is (cons_is h3)]; rfl)]; rfl
  rw [bd_is e]; rfl
theorem three_nones : nones [.none, .none, .none] := fun x h => by simpa using h
/-- what is written into a source that is found -/
theorem found_eq {g : Nat → Ins} {z : Ins} (hg : ∀ i, i ≠ v → g i = insG adj tid bf i) (hz : g v = z) (hd : bf.D v = .none) (hu : bf.D u = some du) (h : z = ⟨nmA v, .int ((du + 1 : Nat) : Int), .int (bf.fnd.length : Int), bsA adj tid v, .ins u⟩) : g = insG adj tid (visit u bf v) := by
  refine upd_eq (k := v) ?_ fun i hi => ?_
  · rw [hz, h]; unfold visit insG; rw [hd]; dsimp only; rw [upd_at, upd_at, upd_at, hu]; rfl
  · rw [hg i hi]; unfold visit insG; rw [hd]; dsimp only; rw [upd_ne _ _ hi, upd_ne _ _ hi, upd_ne _ _ hi]
theorem visit_run (hu : u < 6) (hv : v < 6) (hk : bf.fnd[k]? = some u) (hd : bf.D u = some du) (hl : bf.fnd.length ≤ 6) (ha : nones a) (hla : a.length ≤ 80000) :
    ∃ w' a', nones a' ∧ a'.length ≤ a.length + 3 ∧ B_law_search_1 ⟨locS N (.int (k : Int)) (.ins v) w, L6 (insG adj tid bf), seg2 N (inss bf.fnd) a L, N + 2⟩ = some (.next, ⟨locS N (.int (k : Int)) (.ins v) w', L6 (insG adj tid (visit u bf v)), seg2 N (inss (visit u bf v).fnd) a' L, N + 2⟩) := by
  have lf : (inss bf.fnd).length = bf.fnd.length := List.length_map ..
  have t : cmp2 (methM (var 4) (pu []) (getF .pub)) (pu .none) isM ⟨locS N (.int (k : Int)) (.ins v) w, L6 (insG adj tid bf), seg2 N (inss bf.fnd) a L, N + 2⟩ = isM (oI (bf.D v)) .none ⟨locS N (.int (k : Int)) (.ins v) w, L6 (insG adj tid bf), seg2 N (inss bf.fnd) a L, N + 2⟩ :=
    (bd_is (meth_is (k := v) rfl rfl (get_is (insG adj tid bf) hv .pub _ _ _))).trans rfl
  cases q : bf.D v with
  | some e =>
    rw [q] at t
    refine ⟨w, a, ha, by omega, ?_⟩
    have e0 : visit u bf v = bf := by unfold visit; rw [q]
    rw [e0]
    exact (then_next ((ite_f t).trans rfl)).trans rfl
  | none =>
    rw [q] at t
    have it : ∀ (w : AV) (g : Nat → Ins), bin2 (var 2) (var 3) getItemM ⟨locS N (.int (k : Int)) (.ins v) w, L6 g, seg2 N (inss bf.fnd) a L, N + 2⟩ = some (.ins u, ⟨locS N (.int (k : Int)) (.ins v) w, L6 g, seg2 N (inss bf.fnd) a L, N + 2⟩) := fun w g =>
      item_lob seg_f (by omega) (inss_at hk) _ _ _
    have ln : ∀ (w : AV) (g : Nat → Ins), bd (consM (var 2) (pu [])) lenM ⟨locS N (.int (k : Int)) (.ins v) w, L6 g, seg2 N (inss bf.fnd) a L, N + 2⟩ = some (.int (bf.fnd.length : Int), ⟨locS N (.int (k : Int)) (.ins v) w, L6 g, seg2 N (inss bf.fnd) a L, N + 2⟩) := fun w g => by
      refine (bd_is (a := [.lob (N + 1)]) rfl).trans ?_
      simp only [lenM, itemsM, seg_f, lf]
      rw [if_pos (by omega)]
    have e1 : asgM (bin2 (methM (bin2 (var 2) (var 3) getItemM) (pu []) (getF .pub)) (pu (.int 1)) addM) (setV 5) ⟨locS N (.int (k : Int)) (.ins v) w, L6 (insG adj tid bf), seg2 N (inss bf.fnd) a L, N + 2⟩ = some (.next, ⟨locS N (.int (k : Int)) (.ins v) (.int ((du + 1 : Nat) : Int)), L6 (insG adj tid bf), seg2 N (inss bf.fnd) a L, N + 2⟩) := by
      refine asg_is (v := .int ((du + 1 : Nat) : Int)) (st1 := ⟨locS N (.int (k : Int)) (.ins v) w, L6 (insG adj tid bf), seg2 N (inss bf.fnd) a L, N + 2⟩) ((bd_is (meth_is (it w _) rfl (get_is (insG adj tid bf) hu .pub _ _ _))).trans ?_) rfl
      show bd (pu (.int 1)) (fun y => addM (oI (bf.D u)) y) _ = _
      rw [hd]; rfl
    obtain ⟨g, hg⟩ : ∃ g, g = insG adj tid (visit u bf v) := ⟨_, rfl⟩
    have e2 : iteM (cmp2 (bin2 (bd (consM (var 2) (pu [])) lenM) (pu (.int 2)) modM) (pu (.int 0)) eqM) (thenM (dropM (lmethM (var 1) (consM (bd (consM (methM (var 4) (consM (var 5) (pu [])) (setF .pub)) (consM (methM (var 4) (consM (bin2 (var 2) (var 3) getItemM) (pu [])) (setF .chr)) (consM (methM (var 4) (consM (bd (consM (var 2) (pu [])) lenM) (pu [])) (setF .enc)) (pu [])))) lstM) (pu [])) extendM))
  (pu .next)) (thenM (dropM (lmethM (var 1) (consM (bd (consM (methM (var 4) (consM (bd (consM (var 2) (pu [])) lenM) (pu [])) (setF .enc)) (consM (methM (var 4) (consM (bin2 (var 2) (var 3) getItemM) (pu [])) (setF .chr)) (consM (methM (var 4) (consM (var 5) (pu [])) (setF .pub)) (pu [])))) lstM) (pu [])) extendM))
  (pu .next)) ⟨locS N (.int (k : Int)) (.ins v) (.int ((du + 1 : Nat) : Int)), L6 (insG adj tid bf), seg2 N (inss bf.fnd) a L, N + 2⟩ = some (.next, ⟨locS N (.int (k : Int)) (.ins v) (.int ((du + 1 : Nat) : Int)), L6 g, seg2 N (inss bf.fnd) (a ++ [.none, .none, .none]) L, N + 2⟩) := by
      have tt := (bd_is (g := fun x => bd (pu (.int 0)) fun y => eqM x y) ((bd_is (g := fun x => bd (pu (.int 2)) fun y => modM x y) (ln (.int ((du + 1 : Nat) : Int)) (insG adj tid bf))).trans rfl)).trans rfl
      have ex : ∀ g', extendM (.lob N) [.lst [.none, .none, .none]] ⟨locS N (.int (k : Int)) (.ins v) (.int ((du + 1 : Nat) : Int)), L6 g', seg2 N (inss bf.fnd) a L, N + 2⟩ = some (.none, ⟨locS N (.int (k : Int)) (.ins v) (.int ((du + 1 : Nat) : Int)), L6 g', seg2 N (inss bf.fnd) (a ++ [.none, .none, .none]) L, N + 2⟩) := fun g' => by
        rw [ext_is seg_a (by simp; omega), seg_pa]
      have s1 := fun g' f y => set_is g' hv f y (locS N (.int (k : Int)) (.ins v) (.int ((du + 1 : Nat) : Int))) (seg2 N (inss bf.fnd) a L) (N + 2)
      cases m : ((bf.fnd.length : Int) % 2 == 0) with
      | true =>
        refine (ite_t (by rw [← m]; exact tt)).trans ((then_next (drop_is (lmeth_is (o := N) rfl seg_a (cons3 (meth_is (k := v) rfl rfl (s1 _ _ _)) (meth_is (k := v) rfl (cons_is (it _ _)) (s1 _ _ _)) (meth_is (k := v) rfl (cons_is (ln _ _)) (s1 _ _ _))) (ex _)))).trans ?_)
        refine congrArg (fun z => some (AF.next, (⟨locS N (.int (k : Int)) (.ins v) (.int ((du + 1 : Nat) : Int)), L6 z, seg2 N (inss bf.fnd) (a ++ [.none, .none, .none]) L, N + 2⟩ : AS))) ((found_eq (fun i hi => ?_) rfl q hd ?_).trans hg.symm)
        · simp only [upd_ne _ _ hi]
        · simp only [upd_at]; rfl
      | false =>
        refine (ite_f (by rw [← m]; exact tt)).trans ((then_next (drop_is (lmeth_is (o := N) rfl seg_a (cons3 (meth_is (k := v) rfl (cons_is (ln _ _)) (s1 _ _ _)) (meth_is (k := v) rfl (cons_is (it _ _)) (s1 _ _ _)) (meth_is (k := v) rfl rfl (s1 _ _ _))) (ex _)))).trans ?_)
        refine congrArg (fun z => some (AF.next, (⟨locS N (.int (k : Int)) (.ins v) (.int ((du + 1 : Nat) : Int)), L6 z, seg2 N (inss bf.fnd) (a ++ [.none, .none, .none]) L, N + 2⟩ : AS))) ((found_eq (fun i hi => ?_) rfl q hd ?_).trans hg.symm)
        · simp only [upd_ne _ _ hi]
        · simp only [upd_at]; rfl
    have e3 : dropM (lmethM (var 2) (consM (var 4) (pu [])) appendM) ⟨locS N (.int (k : Int)) (.ins v) (.int ((du + 1 : Nat) : Int)), L6 g, seg2 N (inss bf.fnd) (a ++ [.none, .none, .none]) L, N + 2⟩ = some (.next, ⟨locS N (.int (k : Int)) (.ins v) (.int ((du + 1 : Nat) : Int)), L6 g, seg2 N (inss (bf.fnd ++ [v])) (a ++ [.none, .none, .none]) L, N + 2⟩) := by
      refine drop_is (v := .none) (lmeth_is (o := N + 1) rfl seg_f rfl ((app_is seg_f (by omega) _ _ _).trans ?_))
      rw [seg_pf]; unfold inss; rw [List.map_append]; rfl
    have e4 : (visit u bf v).fnd = bf.fnd ++ [v] := by unfold visit; rw [q]
    refine ⟨.int ((du + 1 : Nat) : Int), a ++ [.none, .none, .none], nones_app ha three_nones, by simp, ?_⟩
    rw [e4, ← hg]
    exact (then_next ((ite_t t).trans ((then_next e1).trans ((then_next e2).trans ((then_next e3).trans rfl))))).trans rfl
end
--@@
section
variable {N k u du : Nat} {f a f' a' : List AV} {L : LH} {bf : Bf} {adj : Nat → List Nat} {sid tid : Nat → Nat} {w x : AV} {m : Nat}
/-- all that one can step to from a source -/
theorem visits_run (hadj : ∀ u, ∀ v ∈ adj u, v < 6) (hu : u < 6) {X : AV} {ws : List Nat} (hX : ∀ loc I f a, itemsM X ⟨loc, I, seg2 N f a L, N + 2⟩ = some (inss ws, ⟨loc, I, seg2 N f a L, N + 2⟩)) (hws : ∀ v ∈ ws, v ∈ adj u) :
    ∀ (d i : Nat) {bf : Bf} {done : List Nat} {x w : AV} {a : List AV}, i + d = ws.length → BJ adj k u du done bf → nones a → a.length + 3 * d ≤ 80000 →
    ∃ x' w' a' done', nones a' ∧ a'.length ≤ a.length + 3 * d ∧ BJ adj k u du done' ((ws.drop i).foldl (visit u) bf) ∧
      forG nxA (setV 4) B_law_search_1 (d + 1) (X, i) ⟨locS N (.int (k : Int)) x w, L6 (insG adj tid bf), seg2 N (inss bf.fnd) a L, N + 2⟩ = some (.next, ⟨locS N (.int (k : Int)) x' w', L6 (insG adj tid ((ws.drop i).foldl (visit u) bf)), seg2 N (inss ((ws.drop i).foldl (visit u) bf).fnd) a' L, N + 2⟩)
  | 0, i, bf, done, x, w, a, h, J, ha, hl => by
    rw [List.drop_eq_nil_of_le (by omega)]
    exact ⟨x, w, a, done, ha, by omega, J, forA_end (hX _ _ _ _) (by rw [inss, List.length_map]; omega)⟩
  | d + 1, i, bf, done, x, w, a, h, J, ha, hl => by
    have hi : i < ws.length := by omega
    have hv := hws _ (List.getElem_mem hi)
    obtain ⟨w1, a1, q1, q2, e1⟩ := visit_run (N := N) (L := L) (tid := tid) (w := w) hu (hadj u _ hv) J.at_ J.hdu J.b.len ha (by omega)
    obtain ⟨x', w', a', done', q3, q4, J', e2⟩ := visits_run hadj hu hX hws d (i + 1) (x := .ins ws[i]) (w := w1) (by omega) (visit_ok hadj J hv) q1 (by omega)
    rw [List.drop_eq_getElem_cons hi, List.foldl_cons]
    refine ⟨x', w', a', done', q3, by omega, J', ?_⟩
    exact (forA_next (hX _ _ _ _) (show (inss ws)[i]? = some (.ins ws[i]) by simp [inss, hi]) (st1 := ⟨locS N (.int (k : Int)) (.ins ws[i]) w, L6 (insG adj tid bf), seg2 N (inss bf.fnd) a L, N + 2⟩) rfl e1).trans e2
/-- one place of the row -/
theorem node_run (G : GH adj sid tid L N m) (K : BK adj k bf) (hk : k < 6) (ha : nones a) (hl : a.length + 3 * m ≤ 80000) :
    ∃ x' w' a', nones a' ∧ a'.length ≤ a.length + 3 * m ∧ B_law_search_2 ⟨locS N (.int (k : Int)) x w, L6 (insG adj tid bf), seg2 N (inss bf.fnd) a L, N + 2⟩ = some (.next, ⟨locS N (.int (k : Int)) x' w', L6 (insG adj tid (node adj bf k)), seg2 N (inss (node adj bf k).fnd) a' L, N + 2⟩) := by
  have lf : (inss bf.fnd).length = bf.fnd.length := List.length_map ..
  have l6 := K.b.len
  have t1 : cmp2 (var 3) (bd (consM (var 2) (pu [])) lenM) ltM ⟨locS N (.int (k : Int)) x w, L6 (insG adj tid bf), seg2 N (inss bf.fnd) a L, N + 2⟩ = some (decide ((k : Int) < (bf.fnd.length : Int)), ⟨locS N (.int (k : Int)) x w, L6 (insG adj tid bf), seg2 N (inss bf.fnd) a L, N + 2⟩) := by
    have ln : bd (consM (var 2) (pu [])) lenM ⟨locS N (.int (k : Int)) x w, L6 (insG adj tid bf), seg2 N (inss bf.fnd) a L, N + 2⟩ = some (.int (bf.fnd.length : Int), ⟨locS N (.int (k : Int)) x w, L6 (insG adj tid bf), seg2 N (inss bf.fnd) a L, N + 2⟩) := by
      refine (bd_is (a := [.lob (N + 1)]) rfl).trans ?_
      simp only [lenM, itemsM, seg_f, lf]
      rw [if_pos (by omega)]
    exact (bd_is (a := .int (k : Int)) rfl).trans ((bd_is ln).trans rfl)
  by_cases hlt : k < bf.fnd.length
  · have q : bf.fnd[k]? = some bf.fnd[k] := List.getElem?_eq_getElem hlt
    obtain ⟨u, hu'⟩ : ∃ u, u = bf.fnd[k] := ⟨_, rfl⟩
    rw [← hu'] at q
    have hu := K.b.lt u (List.mem_of_getElem? q)
    obtain ⟨du, hdu⟩ := (K.b.mem u).mpr (List.mem_of_getElem? q)
    rw [decide_eq_true (by omega)] at t1
    have it : bin2 (var 2) (var 3) getItemM ⟨locS N (.int (k : Int)) x w, L6 (insG adj tid bf), seg2 N (inss bf.fnd) a L, N + 2⟩ = some (.ins u, ⟨locS N (.int (k : Int)) x w, L6 (insG adj tid bf), seg2 N (inss bf.fnd) a L, N + 2⟩) := item_lob seg_f (by omega) (inss_at q) _ _ _
    have g1 := meth_is (F := getF .byt) (fs := pu []) it rfl (get_is (insG adj tid bf) hu .byt _ _ _)
    have g2 : (insG adj tid bf u).get .byt = bsA adj tid u := rfl
    rw [g2] at g1
    have e0 : node adj bf k = (adj u).foldl (visit u) bf := by unfold node; rw [q]
    by_cases h0 : adj u = []
    · rw [bsA_0 h0] at g1
      have t2 : andM (cmp2 (var 3) (bd (consM (var 2) (pu [])) lenM) ltM) (andM (cmp2 (methM (bin2 (var 2) (var 3) getItemM) (pu []) (getF .byt)) (pu .none) isNotM) (pu true)) ⟨locS N (.int (k : Int)) x w, L6 (insG adj tid bf), seg2 N (inss bf.fnd) a L, N + 2⟩ = some (false, ⟨locS N (.int (k : Int)) x w, L6 (insG adj tid bf), seg2 N (inss bf.fnd) a L, N + 2⟩) :=
        (bd_is t1).trans ((bd_is ((bd_is g1).trans rfl)).trans rfl)
      refine ⟨x, w, a, ha, by omega, ?_⟩
      rw [e0, h0]
      exact (then_next ((ite_f t2).trans rfl)).trans rfl
    · rw [bsA_1 h0] at g1
      obtain ⟨s1, _, s3⟩ := G.t u h0
      have hX : ∀ loc I f a, itemsM (.lob (tid u)) ⟨loc, I, seg2 N f a L, N + 2⟩ = some (inss (adj u), ⟨loc, I, seg2 N f a L, N + 2⟩) := fun loc I f a => by simp only [itemsM, seg_t s3, s1]
      have t2 : andM (cmp2 (var 3) (bd (consM (var 2) (pu [])) lenM) ltM) (andM (cmp2 (methM (bin2 (var 2) (var 3) getItemM) (pu []) (getF .byt)) (pu .none) isNotM) (pu true)) ⟨locS N (.int (k : Int)) x w, L6 (insG adj tid bf), seg2 N (inss bf.fnd) a L, N + 2⟩ = some (true, ⟨locS N (.int (k : Int)) x w, L6 (insG adj tid bf), seg2 N (inss bf.fnd) a L, N + 2⟩) :=
        (bd_is t1).trans ((bd_is ((bd_is g1).trans rfl)).trans rfl)
      have hlen := G.len u
      obtain ⟨x', w', a', done', q1, q2, _, e1⟩ := visits_run (N := N) (L := L) (tid := tid) (k := k) G.lt hu hX (fun v h => h) (adj u).length 0 (done := []) (x := x) (w := w) (by omega) ⟨K.b, q, hdu, K.bnd u du q hdu, K.clo, fun v h => nomatch h⟩ ha (by omega)
      rw [List.drop_zero] at e1
      refine ⟨x', w', a', q1, by omega, ?_⟩
      rw [e0]
      have e2 : forM' (bd (methM (bin2 (var 2) (var 3) getItemM) (pu []) (getF .byt)) anyIt) sizeA nxA (setV 4) B_law_search_1 ⟨locS N (.int (k : Int)) x w, L6 (insG adj tid bf), seg2 N (inss bf.fnd) a L, N + 2⟩ = some (.next, ⟨locS N (.int (k : Int)) x' w', L6 (insG adj tid ((adj u).foldl (visit u) bf)), seg2 N (inss ((adj u).foldl (visit u) bf).fnd) a' L, N + 2⟩) := forA_is g1 (hX _ _ _ _) (by rw [show (inss (adj u)).length = (adj u).length from List.length_map ..]; exact e1)
      exact (then_next ((ite_t t2).trans ((then_next e2).trans rfl))).trans rfl
  · rw [decide_eq_false (by omega)] at t1
    have e0 : node adj bf k = bf := by unfold node; rw [List.getElem?_eq_none_iff.mpr (by omega)]
    refine ⟨x, w, a, ha, by omega, ?_⟩
    rw [e0]
    exact (then_next ((ite_f ((bd_is t1).trans rfl)).trans rfl)).trans rfl
theorem nodes_run (G : GH adj sid tid L N m) (hm : m ≤ 100) : ∀ (d k : Nat) {a : List AV} {z x w : AV}, k + d = 6 → nones a → a.length + 3 * m * d ≤ 80000 →
    ∃ z' x' w' a', nones a' ∧ a'.length ≤ a.length + 3 * m * d ∧ forG nxL (setV 3) B_law_search_2 (d + 1) (([0, 1, 2, 3, 4, 5].drop k).map fun (n : Nat) => AV.int (n : Int)) ⟨locS N z x w, L6 (insG adj tid (bfs adj k)), seg2 N (inss (bfs adj k).fnd) a L, N + 2⟩ = some (.next, ⟨locS N z' x' w', L6 (insG adj tid (bfs adj 6)), seg2 N (inss (bfs adj 6).fnd) a' L, N + 2⟩)
  | 0, k, a, z, x, w, h, ha, hl => by
    obtain rfl : k = 6 := by omega
    exact ⟨z, x, w, a, ha, by omega, rfl⟩
  | d + 1, k, a, z, x, w, h, ha, hl => by
    have hk : k < 6 := by omega
    rw [Nat.mul_succ] at hl
    obtain ⟨x1, w1, a1, q1, q2, e1⟩ := node_run (x := x) (w := w) G (bfs_ok G.lt k) hk ha (by omega)
    obtain ⟨z', x', w', a', q3, q4, e2⟩ := nodes_run G hm d (k + 1) (z := .int (k : Int)) (x := x1) (w := w1) (by omega) q1 (by omega)
    refine ⟨z', x', w', a', q3, by rw [Nat.mul_succ]; omega, ?_⟩
    have e3 : ([0, 1, 2, 3, 4, 5].drop k : List Nat) = k :: [0, 1, 2, 3, 4, 5].drop (k + 1) := by rcases six hk with rfl | rfl | rfl | rfl | rfl | rfl <;> rfl
    rw [e3]
    exact (forL_cons (st1 := ⟨locS N (.int (k : Int)) x w, L6 (insG adj tid (bfs adj k)), seg2 N (inss (bfs adj k).fnd) a L, N + 2⟩) rfl e1).trans e2
theorem search_run (G : GH adj sid tid L N m) (hm : m ≤ 100) (loc : List AV) : ∃ a, nones a ∧ a.length ≤ 2 + 18 * m ∧ callM F_law_search [.lst (L6 AV.ins)] ⟨loc, L6 (insG adj tid bE), L, N⟩ = some (.lst a, ⟨loc, L6 (insG adj tid (bfs adj 6)), L, N + 2⟩) := by
  obtain ⟨z', x', w', a', q1, q2, e⟩ := nodes_run G hm 6 0 (a := [.none, .none]) (z := .unb) (x := .unb) (w := .unb) (by omega) (fun x h => by simpa using h) (by simp; omega)
  refine ⟨a', q1, by simp at q2; omega, ?_⟩
  have s1 := fun g' f y l L N => set_is g' (show 0 < 6 by decide) f y l L N
  have e1 : asgM (bd (consM (methM (bin2 (var 0) (pu (.int 0)) getItemM) (consM (pu (.int 0)) (pu [])) (setF .pub)) (consM (methM (bin2 (var 0) (pu (.int 0)) getItemM) (consM (pu (.int 0)) (pu [])) (setF .enc)) (pu []))) newLob) (setV 1) ⟨[.lst (L6 AV.ins), .unb, .unb, .unb, .unb, .unb], L6 (insG adj tid bE), [] :: L, N⟩ = some (.next, ⟨[.lst (L6 AV.ins), .lob N, .unb, .unb, .unb, .unb], L6 (insG adj tid bf0), [(N, [.none, .none])] :: L, N + 1⟩) := by
    have e0 : upd (upd (insG adj tid bE) 0 ((insG adj tid bE 0).put (.int 0) .pub)) 0 ((upd (insG adj tid bE) 0 ((insG adj tid bE 0).put (.int 0) .pub) 0).put (.int 0) .enc) = insG adj tid bf0 := by
      refine upd_eq (k := 0) ?_ fun i hi => ?_
      · rfl
      · rw [upd_ne _ _ hi, upd_ne _ _ hi]; unfold insG bE bf0; dsimp only; rw [upd_ne _ _ hi]
    rw [← e0]
    rfl
  have e2 : asgM (bd (consM (bin2 (var 0) (pu (.int 0)) getItemM) (pu [])) newLob) (setV 2) ⟨[.lst (L6 AV.ins), .lob N, .unb, .unb, .unb, .unb], L6 (insG adj tid bf0), [(N, [.none, .none])] :: L, N + 1⟩ = some (.next, ⟨locS N .unb .unb .unb, L6 (insG adj tid bf0), seg2 N (inss bf0.fnd) [.none, .none] L, N + 2⟩) := rfl
  have e3 : forM' (bd (consM (pu (.int 6)) (pu [])) rangeM) sizeL nxL (setV 3) B_law_search_2 ⟨locS N .unb .unb .unb, L6 (insG adj tid bf0), seg2 N (inss bf0.fnd) [.none, .none] L, N + 2⟩ = _ := forL_is (xs := [0, 1, 2, 3, 4, 5].map fun (n : Nat) => AV.int (n : Int)) (by rfl) e
  refine (call_ret (k := 1) (m := 5) (g := B_law_search) (xs := [.lst (L6 AV.ins)]) (loc := loc) (ins := L6 (insG adj tid bE)) (L := L) (N := N) (v := .lob N) (seg := [(N + 1, inss (bfs adj 6).fnd), (N, a')]) (l' := locS N z' x' w') (ins' := L6 (insG adj tid (bfs adj 6))) (L' := L) (N' := N + 2) rfl ((then_next e1).trans ((then_next e2).trans ((then_next e3).trans rfl)))).trans ?_
  simp [frzV, frz0, lookL]
end
--@@
noncomputable def fa (F : Nat → Option Nat) : Nat → AV := fun v => oI (F v)
noncomputable def locF (N : Nat) (t a b : AV) : List AV := [.lob 1, .lob N, t, a, b]
noncomputable def seg1 (N : Nat) (F : Nat → Option Nat) (L : LH) : LH := [(N, L6 (fa F))] :: L
section
variable {N a b m : Nat} {L : LH} {F : Nat → Option Nat} {adj : Nat → List Nat} {sid tid : Nat → Nat} {t x y : AV} {I : List Ins}
theorem seg1_at : getL1 N (seg1 N F L) = some (L6 (fa F)) := by simp [seg1, getL1, lookL]
theorem seg1_t {k : Nat} (h : k < N) : getL1 k (seg1 N F L) = getL1 k L := by simp [seg1, getL1, lookL, show k ≠ N by omega]
theorem fa_upd {d : Nat} : upd (fa F) b (.int (d : Int)) = fa (upd F b (some d)) := by
  refine upd_eq (k := b) ?_ fun i hi => ?_
  · rw [upd_at]; unfold fa; rw [upd_at]; rfl
  · rw [upd_ne _ _ hi]; unfold fa; rw [upd_ne _ _ hi]
theorem relax_run (ha : a < 6) (hb : b < 6) : B_law_far_1 ⟨locF N t (.int (a : Int)) (.int (b : Int)), I, seg1 N F L, N + 1⟩ = some (.next, ⟨locF N t (.int (a : Int)) (.int (b : Int)), I, seg1 N (relax a F b) L, N + 1⟩) := by
  obtain ⟨st, hst⟩ : ∃ st : AS, st = ⟨locF N t (.int (a : Int)) (.int (b : Int)), I, seg1 N F L, N + 1⟩ := ⟨_, rfl⟩
  have ia : bin2 (var 1) (var 3) getItemM st = some (fa F a, st) := by rw [hst]; exact lob_item seg1_at ha _ _ _
  have ib : bin2 (var 1) (var 4) getItemM st = some (fa F b, st) := by rw [hst]; exact lob_item seg1_at hb _ _ _
  have ta : cmp2 (bin2 (var 1) (var 3) getItemM) (pu .none) isNotM st = isNotM (fa F a) .none st := (bd_is ia).trans rfl
  have tb : cmp2 (bin2 (var 1) (var 4) getItemM) (pu .none) isM st = isM (fa F b) .none st := (bd_is ib).trans rfl
  rw [← hst]
  have store : ∀ d : Nat, F a = some d → asgM (bin2 (bin2 (var 1) (var 3) getItemM) (pu (.int 1)) addM) (fun v => bd (var 1) fun x => bd (var 4) fun y => setItemM x y v) st = some (.next, ⟨locF N t (.int (a : Int)) (.int (b : Int)), I, seg1 N (upd F b (some (d + 1))) L, N + 1⟩) := fun d hd => by
    have e1 : bin2 (bin2 (var 1) (var 3) getItemM) (pu (.int 1)) addM st = some (.int ((d + 1 : Nat) : Int), st) := (bd_is ia).trans (by unfold fa; rw [hd]; rfl)
    refine asg_is e1 ?_
    rw [hst]
    refine (set_item seg1_at hb (.int ((d + 1 : Nat) : Int)) _ _ _).trans ?_
    rw [fa_upd]
    simp [seg1, putL1, lookL, putSeg]
  unfold relax
  unfold fa at ta tb
  cases q : F a with
  | none =>
    rw [q] at ta
    refine (then_next ((ite_f (and_f ta)).trans rfl)).trans ?_
    rw [hst]; rfl
  | some d =>
    rw [q] at ta
    cases r : F b with
    | none =>
      rw [r] at tb
      exact (then_next ((ite_t (st1 := st) ((and_t ta).trans ((and_t (or_t tb)).trans rfl))).trans ((then_next (store d q)).trans rfl))).trans rfl
    | some e =>
      rw [r] at tb
      have tg : cmp2 (bin2 (var 1) (var 4) getItemM) (bin2 (bin2 (var 1) (var 3) getItemM) (pu (.int 1)) addM) gtM st = some (decide ((d : Int) + 1 < (e : Int)), st) := by
        refine (bd_is ib).trans ((bd_is ((bd_is ia).trans (show _ = some (.int ((d : Int) + 1), st) from by unfold fa; rw [q]; rfl))).trans ?_)
        unfold fa; rw [r]; rfl
      dsimp only
      by_cases z : d + 1 < e
      · rw [decide_eq_true (by omega)] at tg
        rw [if_pos z]
        exact (then_next ((ite_t (st1 := st) ((and_t ta).trans ((and_t ((or_f tb).trans (or_t tg))).trans rfl))).trans ((then_next (store d q)).trans rfl))).trans rfl
      · rw [decide_eq_false (by omega)] at tg
        rw [if_neg z]
        refine (then_next ((ite_f (st1 := st) ((and_t ta).trans (and_f ((or_f tb).trans ((or_f tg).trans rfl))))).trans rfl)).trans ?_
        rw [hst]; rfl
theorem stA_items (G : GH adj sid tid L N m) (a : Nat) (loc : List AV) (I : List Ins) (F : Nat → Option Nat) (M : Nat) : itemsM (stA adj sid a) ⟨loc, I, seg1 N F L, M⟩ = some (nums (adj a), ⟨loc, I, seg1 N F L, M⟩) := by
  by_cases h0 : adj a = []
  · rw [stA_0 h0, h0]; rfl
  · obtain ⟨h1, _, h3⟩ := G.s a h0
    rw [stA_1 h0]; simp only [itemsM, seg1_t h3, h1]
theorem rel_run (G : GH adj sid tid L N m) (ha : a < 6) : ∀ (d i : Nat) {F : Nat → Option Nat} {y : AV}, i + d = (adj a).length → ∃ y', forG nxA (setV 4) B_law_far_1 (d + 1) (stA adj sid a, i) ⟨locF N t (.int (a : Int)) y, I, seg1 N F L, N + 1⟩ = some (.next, ⟨locF N t (.int (a : Int)) y', I, seg1 N (((adj a).drop i).foldl (relax a) F) L, N + 1⟩)
  | 0, i, F, y, h => by
    rw [List.drop_eq_nil_of_le (by omega)]
    exact ⟨y, forA_end (stA_items G a _ _ _ _) (by rw [nums, List.length_map]; omega)⟩
  | d + 1, i, F, y, h => by
    have hi : i < (adj a).length := by omega
    have hv := G.lt a _ (List.getElem_mem hi)
    obtain ⟨y', e⟩ := rel_run G ha d (i + 1) (F := relax a F (adj a)[i]) (y := .int ((adj a)[i] : Int)) (by omega)
    rw [List.drop_eq_getElem_cons hi, List.foldl_cons]
    exact ⟨y', (forA_next (stA_items G a _ _ _ _) (show (nums (adj a))[i]? = some (.int ((adj a)[i] : Int)) by simp [nums, hi]) (st1 := ⟨locF N t (.int (a : Int)) (.int ((adj a)[i] : Int)), I, seg1 N F L, N + 1⟩) rfl (relax_run ha hv)).trans e⟩
theorem rels_run (G : GH adj sid tid L N m) : ∀ (as : List Nat) {F : Nat → Option Nat} {x y : AV}, (∀ a ∈ as, a < 6) → ∃ x' y', forG nxL (setV 3) B_law_far_2 (as.length + 1) (as.map fun (n : Nat) => AV.int (n : Int)) ⟨locF N t x y, I, seg1 N F L, N + 1⟩ = some (.next, ⟨locF N t x' y', I, seg1 N (as.foldl (rel adj) F) L, N + 1⟩)
  | [], F, x, y, _ => ⟨x, y, rfl⟩
  | a :: as, F, x, y, h => by
    have ha := h a List.mem_cons_self
    obtain ⟨y1, e1⟩ := rel_run (t := t) (I := I) G ha (adj a).length 0 (F := F) (y := y) (by omega)
    rw [List.drop_zero] at e1
    obtain ⟨x', y', e2⟩ := rels_run G as (F := rel adj F a) (x := .int (a : Int)) (y := y1) fun b hb => h b (List.mem_cons_of_mem _ hb)
    have i1 : bin2 (var 0) (var 3) getItemM ⟨locF N t (.int (a : Int)) y, I, seg1 N F L, N + 1⟩ = some (stA adj sid a, ⟨locF N t (.int (a : Int)) y, I, seg1 N F L, N + 1⟩) := by
      have := G.pos
      exact lob_item ((seg1_t (by omega)).trans G.st) ha _ _ _
    have e3 : forM' (bd (bin2 (var 0) (var 3) getItemM) anyIt) sizeA nxA (setV 4) B_law_far_1 ⟨locF N t (.int (a : Int)) y, I, seg1 N F L, N + 1⟩ = some (.next, ⟨locF N t (.int (a : Int)) y1, I, seg1 N (rel adj F a) L, N + 1⟩) :=
      forA_is i1 (stA_items G a _ _ _ _) (by rw [show (nums (adj a)).length = (adj a).length from List.length_map ..]; exact e1)
    exact ⟨x', y', (forL_cons (st1 := ⟨locF N t (.int (a : Int)) y, I, seg1 N F L, N + 1⟩) rfl ((then_next e3).trans rfl)).trans e2⟩
theorem turns_run (G : GH adj sid tid L N m) : ∀ (d k : Nat) {t x y : AV}, k + d = 5 → ∃ t' x' y', forG nxL (setV 2) B_law_far_3 (d + 1) (([0, 1, 2, 3, 4].drop k).map fun (n : Nat) => AV.int (n : Int)) ⟨locF N t x y, I, seg1 N (turns adj k) L, N + 1⟩ = some (.next, ⟨locF N t' x' y', I, seg1 N (turns adj 5) L, N + 1⟩)
  | 0, k, t, x, y, h => by
    obtain rfl : k = 5 := by omega
    exact ⟨t, x, y, rfl⟩
  | d + 1, k, t, x, y, h => by
    obtain ⟨x1, y1, e1⟩ := rels_run (t := .int (k : Int)) (I := I) G [0, 1, 2, 3, 4, 5] (F := turns adj k) (x := x) (y := y) (by decide)
    obtain ⟨t', x', y', e2⟩ := turns_run G d (k + 1) (t := .int (k : Int)) (x := x1) (y := y1) (by omega)
    have e3 : forM' (bd (consM (pu (.int 6)) (pu [])) rangeM) sizeL nxL (setV 3) B_law_far_2 ⟨locF N (.int (k : Int)) x y, I, seg1 N (turns adj k) L, N + 1⟩ = some (.next, ⟨locF N (.int (k : Int)) x1 y1, I, seg1 N (turns adj (k + 1)) L, N + 1⟩) := forL_is (xs := [0, 1, 2, 3, 4, 5].map fun (n : Nat) => AV.int (n : Int)) (by rfl) e1
    have e4 : ([0, 1, 2, 3, 4].drop k : List Nat) = k :: [0, 1, 2, 3, 4].drop (k + 1) := by
      have : k = 0 ∨ k = 1 ∨ k = 2 ∨ k = 3 ∨ k = 4 := by omega
      rcases this with rfl | rfl | rfl | rfl | rfl <;> rfl
    rw [e4]
    exact ⟨t', x', y', (forL_cons (st1 := ⟨locF N (.int (k : Int)) x y, I, seg1 N (turns adj k) L, N + 1⟩) rfl ((then_next e3).trans rfl)).trans e2⟩
theorem far_run (G : GH adj sid tid L N m) (loc : List AV) : callM F_law_far [.lob 1] ⟨loc, I, L, N⟩ = some (.lst (L6 (fa (turns adj 5))), ⟨loc, I, L, N + 1⟩) := by
  obtain ⟨t', x', y', e⟩ := turns_run (I := I) G 5 0 (t := .unb) (x := .unb) (y := .unb) (by omega)
  have e1 : asgM (bd (consM (pu (.int 0)) (consM (pu .none) (consM (pu .none) (consM (pu .none) (consM (pu .none) (consM (pu .none) (pu []))))))) newLob) (setV 1) ⟨[.lob 1, .unb, .unb, .unb, .unb], I, [] :: L, N⟩ = some (.next, ⟨locF N .unb .unb .unb, I, seg1 N (turns adj 0) L, N + 1⟩) := rfl
  have e3 : forM' (bd (consM (pu (.int 5)) (pu [])) rangeM) sizeL nxL (setV 2) B_law_far_3 ⟨locF N .unb .unb .unb, I, seg1 N (turns adj 0) L, N + 1⟩ = _ := forL_is (xs := [0, 1, 2, 3, 4].map fun (n : Nat) => AV.int (n : Int)) (by rfl) e
  refine (call_ret (k := 1) (m := 4) (g := B_law_far) (xs := [.lob 1]) (loc := loc) (ins := I) (L := L) (N := N) (v := .lob N) (seg := [(N, L6 (fa (turns adj 5)))]) (l' := locF N t' x' y') (ins' := I) (L' := L) (N' := N + 1) rfl ((then_next e1).trans ((then_next e3).trans rfl))).trans ?_
  simp [frzV, frz0, lookL]
end
--@@
/-! comprehensions -/
noncomputable def Wlk {σ : Type} (nx : σ → AS → Option (Option (AV × σ))) (ok : AS → Prop) : List AV → σ → Prop
  | [], i => ∀ st, ok st → nx i st = some .none
  | x :: xs, i => ∃ i', (∀ st, ok st → nx i st = some (some (x, i'))) ∧ Wlk nx ok xs i'
theorem wlk_L (ok : AS → Prop) : ∀ xs : List AV, Wlk nxL ok xs xs
  | [] => fun _ _ => rfl
  | x :: xs => ⟨xs, fun _ _ => rfl, wlk_L ok xs⟩
theorem wlk_A {ok : AS → Prop} {X : AV} {zs : List AV} (h : ∀ st, ok st → itemsM X st = some (zs, st)) : ∀ d i, i + d = zs.length → Wlk nxA ok (zs.drop i) (X, i)
  | 0, i, e => by
    rw [List.drop_eq_nil_of_le (by omega)]
    intro st hs
    simp only [nxA, h st hs, List.getElem?_eq_none (show zs.length ≤ i by omega)]
  | d + 1, i, e => by
    rw [List.drop_eq_getElem_cons (by omega)]
    exact ⟨(X, i + 1), fun st hs => by simp only [nxA, h st hs, List.getElem?_eq_getElem (show i < zs.length by omega)], wlk_A h d (i + 1) (by omega)⟩
section
variable {σ : Type} {nx : σ → AS → Option (Option (AV × σ))} {tgt : AV → Cm Unit} {ft : Cm Bool} {fm : Cm Unit} {fe : Cm AV} {I : List Ins} {L : LH} {M : Nat}
noncomputable def cst (I : List Ins) (L : LH) (M : Nat) (loc ys : List AV) : AS := ⟨loc, I, [(M, ys)] :: L, M + 1⟩
/-- what one item does -/
noncomputable def Item (B : Nat) (tgt : AV → Cm Unit) (ft : Cm Bool) (fm : Cm Unit) (I : List Ins) (L : LH) (M : Nat) (R : List AV → Prop) (V : AV → List AV) (x : AV) : Prop := ∀ loc ys, R loc → ys.length ≤ B → ∃ loc1, tgt x (cst I L M loc ys) = some ((), cst I L M loc1 ys) ∧
  ((ft (cst I L M loc1 ys) = some (false, cst I L M loc1 ys) ∧ V x = [] ∧ R loc1) ∨ (ft (cst I L M loc1 ys) = some (true, cst I L M loc1 ys) ∧ ∃ loc2, R loc2 ∧ fm (cst I L M loc1 ys) = some ((), cst I L M loc2 (ys ++ V x))))
theorem clo_walk {B : Nat} {R : List AV → Prop} {V : AV → List AV} : ∀ {xs : List AV} {i : σ} {loc ys : List AV}, Wlk nx (fun st => ∃ loc ys, st = cst I L M loc ys) xs i → (∀ x ∈ xs, Item B tgt ft fm I L M R V x) → R loc → ys.length + (xs.flatMap V).length ≤ B →
    ∃ loc', R loc' ∧ cloG nx tgt ft fm (xs.length + 1) i (cst I L M loc ys) = some ((), cst I L M loc' (ys ++ xs.flatMap V))
  | [], i, loc, ys, hw, _, hR, _ => ⟨loc, hR, by
    rw [cloG]; simp only [hw _ ⟨loc, ys, rfl⟩, List.flatMap_nil, List.append_nil]⟩
  | x :: xs, i, loc, ys, ⟨i', hw, hw'⟩, h, hR, hl => by
    rw [List.flatMap_cons, List.length_append] at hl
    have hx := hw _ ⟨loc, ys, rfl⟩
    obtain ⟨loc1, e1, h1⟩ := h x List.mem_cons_self loc ys hR (by omega)
    have step : cloG nx tgt ft fm ((x :: xs).length + 1) i (cst I L M loc ys) = (bd (tgt x) fun _ => bd ft fun ok => if ok then (bd fm fun _ => cloG nx tgt ft fm (xs.length + 1) i') else cloG nx tgt ft fm (xs.length + 1) i') (cst I L M loc ys) := by
      rw [List.length_cons, cloG]; simp only [hx]
    rw [step, List.flatMap_cons]
    rcases h1 with ⟨e2, hv, hR1⟩ | ⟨e2, loc2, hR2, e3⟩
    · obtain ⟨loc', hR', e⟩ := clo_walk (loc := loc1) (ys := ys) hw' (fun y hy => h y (List.mem_cons_of_mem _ hy)) hR1 (by omega)
      refine ⟨loc', hR', (bd_is e1).trans ((bd_is e2).trans ?_)⟩
      rw [hv, List.nil_append]
      exact e
    · obtain ⟨loc', hR', e⟩ := clo_walk (loc := loc2) (ys := ys ++ V x) hw' (fun y hy => h y (List.mem_cons_of_mem _ hy)) hR2 (by rw [List.length_append]; omega)
      refine ⟨loc', hR', (bd_is e1).trans ((bd_is e2).trans ((bd_is e3).trans ?_))⟩
      rw [← List.append_assoc]
      exact e
theorem emit_is {loc ys : List AV} {v : AV} (h : fe (cst I L M loc ys) = some (v, cst I L M loc ys)) (hl : ys.length ≤ 90000) : emit1 fe M (cst I L M loc ys) = some ((), cst I L M loc (ys ++ [v])) := by
  have e : appendM (.lob M) [v] (cst I L M loc ys) = some (.none, cst I L M loc (ys ++ [v])) := by simp [cst, appendM, getL1, lookL, putL1, putSeg, show ys.length ≤ 100000 by omega]
  exact (bd_is h).trans ((bd_is e).trans rfl)
/-- a plain item of one clause -/
theorem item_one {B : Nat} (hB : B ≤ 90000) {R : List AV → Prop} {x v : AV} {lc : List AV} {b : Bool} (h1 : ∀ loc ys, R loc → tgt x (cst I L M loc ys) = some ((), cst I L M lc ys)) (hR : R lc) (h2 : ∀ ys, ft (cst I L M lc ys) = some (b, cst I L M lc ys)) (h3 : b = true → ∀ ys, fe (cst I L M lc ys) = some (v, cst I L M lc ys)) {V : AV → List AV} (hV : V x = if b then [v] else []) :
    Item B tgt ft (emit1 fe M) I L M R V x := fun loc ys hr hl => ⟨lc, h1 loc ys hr, by
  cases b with
  | false => exact .inl ⟨h2 ys, hV, hR⟩
  | true => exact .inr ⟨h2 ys, lc, hR, by rw [hV, if_pos rfl]; exact emit_is (h3 rfl ys) (Nat.le_trans hl hB)⟩⟩
theorem comp_is {k : Nat} {caps : List Nat} {f : Cm σ} {size : σ → AS → Nat} {fm : Nat → Cm Unit} {loc : List AV} {xs : List AV} {i : σ} {R : List AV → Prop} {V : AV → List AV} (h0 : f ⟨loc, I, [] :: L, M⟩ = some (i, ⟨loc, I, [] :: L, M⟩)) (hz : size i ⟨loc, I, [] :: L, M⟩ = xs.length + 1)
    (hw : Wlk nx (fun st => ∃ loc ys, st = cst I L M loc ys) xs i) (h : ∀ x ∈ xs, Item 5000 tgt ft (fm M) I L M R V x) (hR : R (List.replicate k .unb ++ capsL caps loc)) (hl : (xs.flatMap V).length ≤ 5000) : compN k caps f size nx tgt ft fm ⟨loc, I, [] :: L, M⟩ = some (.lob M, ⟨loc, I, [(M, xs.flatMap V)] :: L, M + 1⟩) := by
  obtain ⟨loc', _, e⟩ := clo_walk (ys := []) hw h hR (by simpa using hl)
  rw [compN, bd_is h0]
  dsimp only
  rw [hz]
  have e' : cloG nx tgt ft (fm M) (xs.length + 1) i ⟨List.replicate k .unb ++ capsL caps loc, I, pushL1 M [] ([] :: L), M + 1⟩ = _ := e
  rw [e', List.nil_append]
  rfl
end
theorem frzN {f : Cm AV} {loc ys : List AV} {I : List Ins} {L : LH} {M : Nat} (h : f ⟨loc, I, [] :: L, M⟩ = some (.lob M, ⟨loc, I, [(M, ys)] :: L, M + 1⟩)) : frzE f ⟨loc, I, L, M⟩ = some (.lst ys, ⟨loc, I, L, M + 1⟩) := frzE_is (st := ⟨loc, I, L, M⟩) (st1 := ⟨loc, I, L, M + 1⟩) h
/-- which of six -/
theorem pick_v {v : Nat} (hv : v < 6) : ([0, 1, 2, 3, 4, 5] : List Nat).flatMap (fun j => if v == j then [AV.int (j : Int)] else []) = [.int (v : Int)] := by rcases six hv with rfl | rfl | rfl | rfl | rfl | rfl <;> rfl
theorem flat_nums (V : AV → List AV) : ∀ js : List Nat, (nums js).flatMap V = js.flatMap fun (j : Nat) => V (.int (j : Int))
  | [] => rfl
  | j :: js => by
    rw [nums, List.map_cons, List.flatMap_cons, List.flatMap_cons]
    exact congrArg _ (flat_nums V js)
noncomputable def oL : Option Nat → List AV
  | some u => [.int (u : Int)]
  | .none => []
noncomputable def natA : AV → Nat
  | .int i => i.toNat
  | .ins k => k
  | _ => 0
section
variable {I : List Ins} {L : LH} {M : Nat}
/-- the names behind a list of sources -/
theorem comp4 {loc : List AV} {X : AV} {vs : List Nat} (h14 : var 14 ⟨loc, I, [] :: L, M⟩ = some (X, ⟨loc, I, [] :: L, M⟩)) (h2 : capsL [2] loc = [.lst (L6 AV.ins)]) (hX0 : itemsM X ⟨loc, I, [] :: L, M⟩ = some (inss vs, ⟨loc, I, [] :: L, M⟩)) (hX : ∀ loc ys, itemsM X (cst I L M loc ys) = some (inss vs, cst I L M loc ys)) (hv : ∀ v ∈ vs, v < 6) (hl : vs.length ≤ 4500) : C_law_4 ⟨loc, I, [] :: L, M⟩ = some (.lob M, ⟨loc, I, [(M, nums vs)] :: L, M + 1⟩) := by
  have lv : (inss vs).length = vs.length := List.length_map ..
  have e1 : (inss vs).flatMap (fun x => [AV.int (natA x : Int)]) = nums vs := by
    clear lv hv hl hX hX0
    induction vs with
    | nil => rfl
    | cons v vs ih => show [AV.int (v : Int)] ++ (inss vs).flatMap _ = AV.int (v : Int) :: nums vs; rw [ih]; rfl
  have key : ∀ x ∈ inss vs, Item 5000 (setV 0) (pu true) (emit2 (bd (consM (pu (.int 6)) (pu [])) rangeM) sizeL nxL (setV 1) (cmp2 (var 0) (bin2 (var 2) (var 1) getItemM) isM) (var 1) M) I L M (fun loc => ∃ a b, loc = [a, b, .lst (L6 AV.ins)]) (fun x => [AV.int (natA x : Int)]) x := by
    intro x hx loc ys hR hy
    obtain ⟨v, hv', rfl⟩ := List.mem_map.mp hx
    have hv6 := hv v hv'
    obtain ⟨a, b, rfl⟩ := hR
    refine ⟨[.ins v, b, .lst (L6 AV.ins)], rfl, .inr ⟨rfl, ?_⟩⟩
    have hin : ∀ x ∈ nums [0, 1, 2, 3, 4, 5], Item 5001 (setV 1) (cmp2 (var 0) (bin2 (var 2) (var 1) getItemM) isM) (emit1 (var 1) M) I L M (fun loc => ∃ b, loc = [.ins v, b, .lst (L6 AV.ins)]) (fun x => if v == natA x then [x] else []) x := fun x hx => by
      obtain ⟨j, hj, rfl⟩ := List.mem_map.mp hx
      have hj6 : j < 6 := by revert hj; simp; omega
      refine item_one (by decide) (lc := [.ins v, .int (j : Int), .lst (L6 AV.ins)]) (b := v == j) (v := .int (j : Int)) (fun loc ys hR => by obtain ⟨b, rfl⟩ := hR; rfl) ⟨_, rfl⟩ (fun ys => ?_) (fun _ _ => rfl) rfl
      have it : bin2 (var 2) (var 1) getItemM (cst I L M [.ins v, .int (j : Int), .lst (L6 AV.ins)] ys) = some (.ins j, cst I L M [.ins v, .int (j : Int), .lst (L6 AV.ins)] ys) := L6_item AV.ins hj6 _
      exact (bd_is (a := .ins v) rfl).trans ((bd_is it).trans rfl)
    have fe : (nums [0, 1, 2, 3, 4, 5]).flatMap (fun x => if v == natA x then [x] else []) = [AV.int (v : Int)] := by
      rw [flat_nums]; exact pick_v hv6
    obtain ⟨loc2, ⟨b2, h2⟩, e⟩ := clo_walk (ys := ys) (wlk_L _ (nums [0, 1, 2, 3, 4, 5])) hin ⟨b, rfl⟩ (by rw [fe]; simp; omega)
    rw [fe] at e
    exact ⟨loc2, ⟨_, _, h2⟩, (bd_is (a := nums [0, 1, 2, 3, 4, 5]) rfl).trans e⟩
  have r := comp_is (k := 2) (caps := [2]) (f := bd (var 14) anyIt) (size := sizeA) (nx := nxA) (tgt := setV 0) (ft := pu true) (fm := emit2 (bd (consM (pu (.int 6)) (pu [])) rangeM) sizeL nxL (setV 1) (cmp2 (var 0) (bin2 (var 2) (var 1) getItemM) isM) (var 1)) (xs := inss vs) (i := (X, 0))
    ((bd_is h14).trans (by unfold anyIt; rw [hX0])) (by unfold sizeA; rw [hX0]) (by have := wlk_A (ok := fun st => ∃ loc ys, st = cst I L M loc ys) (X := X) (zs := inss vs) (fun st ⟨loc, ys, h⟩ => by rw [h]; exact hX loc ys) (inss vs).length 0 (by omega); rw [List.drop_zero] at this; exact this) key ⟨.unb, .unb, by rw [h2]; rfl⟩ (by rw [e1, nums, List.length_map]; omega)
  rw [e1] at r
  exact r
/-- from where -/
theorem comp3 {loc : List AV} {k : Nat} {o : Option Nat} {g : Nat → Ins} (h2 : capsL [2, 8] loc = [.lst (L6 AV.ins), .ins k]) (hk : k < 6) (hI : I = L6 g) (ho : (g k).chr = oS o) (h6 : ∀ u, o = some u → u < 6) : C_law_3 ⟨loc, I, [] :: L, M⟩ = some (.lob M, ⟨loc, I, [(M, oL o)] :: L, M + 1⟩) := by
  have r := comp_is (k := 1) (caps := [2, 8]) (f := bd (consM (pu (.int 6)) (pu [])) rangeM) (size := sizeL) (nx := nxL) (tgt := setV 0) (ft := cmp2 (methM (var 2) (pu []) (getF .chr)) (bin2 (var 1) (var 0) getItemM) isM) (fm := emit1 (var 0)) (I := I) (L := L) (M := M) (loc := loc) (xs := nums [0, 1, 2, 3, 4, 5]) (i := nums [0, 1, 2, 3, 4, 5])
    (R := fun loc => ∃ a, loc = [a, .lst (L6 AV.ins), .ins k]) (V := fun x => if o == some (natA x) then [x] else []) rfl rfl (wlk_L _ _) (fun x hx => ?_) ⟨.unb, by rw [h2]; rfl⟩ (by
      rw [flat_nums]
      cases o with
      | none => decide
      | some u =>
        rw [show (fun j : Nat => if some u == some (natA (.int (j : Int))) then [AV.int (j : Int)] else []) = (fun j : Nat => if u == j then [AV.int (j : Int)] else []) from rfl, pick_v (h6 u rfl)]
        exact Nat.le_of_ble_eq_true rfl)
  · rw [flat_nums] at r
    cases o with
    | none => exact r
    | some u =>
      rw [show (fun j : Nat => if some u == some (natA (.int (j : Int))) then [AV.int (j : Int)] else []) = (fun j : Nat => if u == j then [AV.int (j : Int)] else []) from rfl, pick_v (h6 u rfl)] at r
      exact r
  · obtain ⟨j, hj, rfl⟩ := List.mem_map.mp hx
    have hj6 : j < 6 := by revert hj; simp; omega
    refine item_one (by decide) (lc := [.int (j : Int), .lst (L6 AV.ins), .ins k]) (b := o == some j) (v := .int (j : Int)) (fun loc ys hR => by obtain ⟨b, rfl⟩ := hR; rfl) ⟨_, rfl⟩ (fun ys => ?_) (fun _ _ => rfl) rfl
    have g1 := get_is g hk .chr [.int (j : Int), .lst (L6 AV.ins), .ins k] ([(M, ys)] :: L) (M + 1)
    rw [show (g k).get .chr = oS o from ho, ← hI] at g1
    have it : bin2 (var 1) (var 0) getItemM (cst I L M [.int (j : Int), .lst (L6 AV.ins), .ins k] ys) = some (.ins j, cst I L M [.int (j : Int), .lst (L6 AV.ins), .ins k] ys) := L6_item AV.ins hj6 _
    refine (bd_is (meth_is (k := k) rfl rfl g1)).trans ((bd_is it).trans ?_)
    cases o <;> rfl
end
--@@
noncomputable def loc9 (s k x src nm far ord A B told ahd : AV) : List AV := [s, .lst (L6 nmA), .lst (L6 AV.ins), k, x, .unb, .lob 1, .lob 2, src, nm, far, ord, A, B, told, ahd]
theorem nmA_pl (k : Nat) : (nmA k).pl = true := by unfold nmA; split <;> rfl
theorem oI_pl (o : Option Nat) : (oI o).pl = true := by cases o <;> rfl
theorem ne_same {v : AV} (h : v.pl = true) (st : AS) : neM v v st = some (false, st) := by unfold neM; rw [pl_eq h st 7]; rfl
theorem ne_same_bool (b : Bool) (st : AS) : neM (.bool b) (.bool b) st = some (false, st) := by cases b <;> rfl
theorem eq_nums (st : AS) (d : Nat) : ∀ l : List Nat, eqAll (eqF st (d + 1)) (nums l) (nums l) = some true
  | [] => rfl
  | v :: l => by
    have h : eqF st (d + 1) (.int (v : Int)) (.int (v : Int)) = some true := pl_eq (v := .int (v : Int)) rfl st d
    show eqAll (eqF st (d + 1)) (.int (v : Int) :: nums l) (.int (v : Int) :: nums l) = _
    simp only [eqAll, h, eq_nums st d l, Bool.and_self]
theorem intsOf_nums : ∀ l : List Nat, intsOf (nums l) = some (l.map fun (v : Nat) => (v : Int))
  | [] => rfl
  | v :: l => by show intsOf (.int (v : Int) :: nums l) = _; simp only [intsOf, intsOf_nums l, List.map_cons]
section
variable {s x A B told ahd src nm k0 : AV} {N O m k : Nat} {adj : Nat → List Nat} {sid tid : Nat → Nat} {L : LH}
theorem s16 {a b : AV} (G : GH adj sid tid L N m) (hm : m ≤ 100) : ∃ L' m', S1_6 ⟨loc5 s x a b, L6 (insG adj tid bE), L, N⟩ = some (.next, ⟨loc5 s x a b, L6 (insG adj tid (bfs adj 6)), L', N + 2⟩) ∧ GH adj sid tid L' (N + 2) m' ∧ m' ≤ 3000 := by
  obtain ⟨ys, h1, h2, e1⟩ := search_run G hm (loc5 s x a b)
  obtain ⟨as, g1, g2, g3⟩ := G.say ys h1
  refine ⟨_, _, drop_is (lmeth_is (o := 2) rfl g1 ((bd_is (cons_is (v := .lst (L6 AV.ins)) rfl)).trans e1) (ext_is g1 (by omega) _ _ _)), g3.frame (fun _ _ => rfl) (by omega), by omega⟩
/-- names and lists once more -/
theorem again_run (G : GH adj sid tid L N m) (hm : m ≤ 5000) (hk : k < 6) {bf : Bf} : ∃ L', B_law_10 ⟨loc9 s k0 x (.ins k) (nmA k) .unb .unb A B .unb .unb, L6 (insG adj tid bf), L, N⟩ = some (.next, ⟨loc9 s k0 x (.ins k) (nmA k) .unb .unb A B .unb .unb, L6 (insG adj tid bf), L', N⟩) ∧ GH adj sid tid L' N (m + 2) := by
  obtain ⟨as, a1, a2, G1⟩ := G.say [.none] one_none
  obtain ⟨bs, b1, b2, G2⟩ := G1.say [.none] one_none
  refine ⟨_, ?_, G2⟩
  have v9 : ∀ L N, var 9 ⟨loc9 s k0 x (.ins k) (nmA k) .unb .unb A B .unb .unb, L6 (insG adj tid bf), L, N⟩ = some (nmA k, ⟨loc9 s k0 x (.ins k) (nmA k) .unb .unb A B .unb .unb, L6 (insG adj tid bf), L, N⟩) := fun L N => var_get rfl (by unfold nmA; split <;> exact nofun)
  have g1 := fun f L => get_is (insG adj tid bf) hk f (loc9 s k0 x (.ins k) (nmA k) .unb .unb A B .unb .unb) L N
  have s1 := fun f v L => set_is (insG adj tid bf) hk f v (loc9 s k0 x (.ins k) (nmA k) .unb .unb A B .unb .unb) L N
  have e1 : S10_1 _ = _ := ite_f ((bd_is (meth_is (k := k) (fs := pu []) rfl rfl (g1 .sys L))).trans ((bd_is (v9 L N)).trans (ne_same (nmA_pl k) _)))
  have e2 : S10_2 _ = _ := drop_is (lmeth_is (o := 2) rfl a1 (meth_is (k := k) rfl (cons_is (meth_is (k := k) (fs := pu []) rfl rfl (g1 .byt L))) (s1 .byt _ L)) (app_is a1 (by omega) _ _ _))
  have e3 : S10_3 _ = _ := drop_is (lmeth_is (o := 2) rfl b1 (meth_is (k := k) rfl (cons_is (v9 _ N)) (s1 .sys _ _)) (app_is b1 (by simp at b2; omega) _ _ _))
  have u1 : upd (insG adj tid bf) k ((insG adj tid bf k).put ((insG adj tid bf k).get .byt) .byt) = insG adj tid bf := upd_self rfl
  have u2 : upd (insG adj tid bf) k ((insG adj tid bf k).put (nmA k) .sys) = insG adj tid bf := upd_self rfl
  rw [u1] at e2
  rw [u2] at e3
  exact (then_next (e1.trans rfl)).trans ((then_next e2).trans ((then_next e3).trans rfl))
theorem agains_run {bf : Bf} : ∀ (ks : List Nat) {src nm : AV} {L : LH} {m : Nat}, GH adj sid tid L N m → m + 2 * ks.length ≤ 5000 → (∀ k ∈ ks, k < 6) →
    ∃ src' nm' L', forG nx2 (unpackM 2 (consA (setV 8) (consA (setV 9) nilA))) B_law_10 (ks.length + 1) (ks.map AV.ins, ks.map nmA) ⟨loc9 s k0 x src nm .unb .unb A B .unb .unb, L6 (insG adj tid bf), L, N⟩ = some (.next, ⟨loc9 s k0 x src' nm' .unb .unb A B .unb .unb, L6 (insG adj tid bf), L', N⟩) ∧ GH adj sid tid L' N (m + 2 * ks.length)
  | [], src, nm, L, m, G, _, _ => ⟨src, nm, L, rfl, G⟩
  | k :: ks, src, nm, L, m, G, h, hk => by
    rw [List.length_cons] at h
    obtain ⟨L1, e1, G1⟩ := again_run (s := s) (k0 := k0) (x := x) (A := A) (B := B) (bf := bf) G (by omega) (hk k List.mem_cons_self)
    obtain ⟨src', nm', L', e2, G2⟩ := agains_run ks (src := .ins k) (nm := nmA k) G1 (by omega) fun j hj => hk j (List.mem_cons_of_mem _ hj)
    refine ⟨src', nm', L', ?_, by rw [List.length_cons, show m + 2 * (ks.length + 1) = m + 2 + 2 * ks.length by omega]; exact G2⟩
    rw [List.length_cons, forG_next (i' := (ks.map AV.ins, ks.map nmA)) (x := .tup [.ins k, nmA k]) rfl]
    exact (bd_is (a := ()) (st1 := ⟨loc9 s k0 x (.ins k) (nmA k) .unb .unb A B .unb .unb, L6 (insG adj tid bf), L, N⟩) rfl).trans ((then_next e1).trans e2)
end
--@@
noncomputable def row (bf : Bf) (v : Nat) : AV := .lst [oI (bf.E v), oI (bf.D v), oI (bf.E v)]
noncomputable def rowL (bf : Bf) (v : Nat) : List AV := if (bf.D v).isSome then [row bf v] else []
section
variable {s x A B told ahd src nm : AV} {N O m k : Nat} {adj : Nat → List Nat} {sid tid : Nat → Nat} {L : LH} {bf : Bf}
theorem s31 (hk : k < 6) : S3_1 ⟨loc9 s (.int (k : Int)) x src nm (.lst (L6 (fa bf.D))) (.lob O) A B told ahd, L6 (insG adj tid bf), L, N⟩ = some (.next, (⟨loc9 s (.int (k : Int)) x (.ins k) nm (.lst (L6 (fa bf.D))) (.lob O) A B (bsA adj tid k) ahd, L6 (insG adj tid bf), L, N⟩ : AS)) := by
  have i1 : bin2 (var 2) (var 3) getItemM ⟨loc9 s (.int (k : Int)) x src nm (.lst (L6 (fa bf.D))) (.lob O) A B told ahd, L6 (insG adj tid bf), L, N⟩ = some (.ins k, ⟨loc9 s (.int (k : Int)) x src nm (.lst (L6 (fa bf.D))) (.lob O) A B told ahd, L6 (insG adj tid bf), L, N⟩) := L6_item AV.ins hk _
  have i2 := meth_is (F := getF .byt) (fs := pu []) i1 rfl (get_is (insG adj tid bf) hk .byt _ _ _)
  exact asg_is (v := .tup [.ins k, bsA adj tid k]) ((bd_is ((bd_is i1).trans ((bd_is (cons_is i2)).trans rfl))).trans rfl) rfl
theorem far_at (hk : k < 6) : bin2 (var 10) (var 3) getItemM (⟨loc9 s (.int (k : Int)) x (.ins k) nm (.lst (L6 (fa bf.D))) (.lob O) A B told ahd, L6 (insG adj tid bf), L, N⟩ : AS) = some (oI (bf.D k), (⟨loc9 s (.int (k : Int)) x (.ins k) nm (.lst (L6 (fa bf.D))) (.lob O) A B told ahd, L6 (insG adj tid bf), L, N⟩ : AS)) := L6_item (fa bf.D) hk _
theorem fld (hk : k < 6) (f : Fd) : methM (var 8) (pu []) (getF f) (⟨loc9 s (.int (k : Int)) x (.ins k) nm (.lst (L6 (fa bf.D))) (.lob O) A B told ahd, L6 (insG adj tid bf), L, N⟩ : AS) = some ((insG adj tid bf k).get f, (⟨loc9 s (.int (k : Int)) x (.ins k) nm (.lst (L6 (fa bf.D))) (.lob O) A B told ahd, L6 (insG adj tid bf), L, N⟩ : AS)) := meth_is (k := k) rfl rfl (get_is (insG adj tid bf) hk f _ _ _)
theorem s32 (hk : k < 6) : S3_2 (⟨loc9 s (.int (k : Int)) x (.ins k) nm (.lst (L6 (fa bf.D))) (.lob O) A B told ahd, L6 (insG adj tid bf), L, N⟩ : AS) = some (.next, (⟨loc9 s (.int (k : Int)) x (.ins k) nm (.lst (L6 (fa bf.D))) (.lob O) A B told ahd, L6 (insG adj tid bf), L, N⟩ : AS)) := by
  have i1 : bin2 (var 1) (var 3) getItemM (⟨loc9 s (.int (k : Int)) x (.ins k) nm (.lst (L6 (fa bf.D))) (.lob O) A B told ahd, L6 (insG adj tid bf), L, N⟩ : AS) = some (nmA k, (⟨loc9 s (.int (k : Int)) x (.ins k) nm (.lst (L6 (fa bf.D))) (.lob O) A B told ahd, L6 (insG adj tid bf), L, N⟩ : AS)) := L6_item nmA hk _
  exact ite_f ((or_f ((bd_is (fld hk .sys)).trans ((bd_is i1).trans (ne_same (nmA_pl k) _)))).trans (or_f ((bd_is (fld hk .pub)).trans ((bd_is (far_at hk)).trans (ne_same (oI_pl (bf.D k)) _)))))
theorem steps_at (G : GH adj sid tid L O m) (hk : k < 6) : bin2 (var 6) (var 3) getItemM (⟨loc9 s (.int (k : Int)) x (.ins k) nm (.lst (L6 (fa bf.D))) (.lob O) A B told ahd, L6 (insG adj tid bf), L, N⟩ : AS) = some (stA adj sid k, (⟨loc9 s (.int (k : Int)) x (.ins k) nm (.lst (L6 (fa bf.D))) (.lob O) A B told ahd, L6 (insG adj tid bf), L, N⟩ : AS)) := lob_item G.st hk _ _ _
theorem s33 (G : GH adj sid tid L O m) (hk : k < 6) : S3_3 (⟨loc9 s (.int (k : Int)) x (.ins k) nm (.lst (L6 (fa bf.D))) (.lob O) A B (bsA adj tid k) ahd, L6 (insG adj tid bf), L, N⟩ : AS) = some (.next, (⟨loc9 s (.int (k : Int)) x (.ins k) nm (.lst (L6 (fa bf.D))) (.lob O) A B (bsA adj tid k) ahd, L6 (insG adj tid bf), L, N⟩ : AS)) := by
  have i1 := steps_at (s := s) (x := x) (A := A) (B := B) (told := bsA adj tid k) (ahd := ahd) (nm := nm) (N := N) (bf := bf) G hk
  by_cases h0 : adj k = []
  · rw [stA_0 h0] at i1
    rw [bsA_0 h0] at i1 ⊢
    exact ite_f ((bd_is (a := .bool true) rfl).trans ((bd_is ((bd_is ((bd_is i1).trans rfl)).trans rfl)).trans (ne_same_bool true _)))
  · rw [stA_1 h0] at i1
    rw [bsA_1 h0] at i1 ⊢
    have e0 : eqM (.lob (sid k)) (.lst []) (⟨loc9 s (.int (k : Int)) x (.ins k) nm (.lst (L6 (fa bf.D))) (.lob O) A B (.lob (tid k)) ahd, L6 (insG adj tid bf), L, N⟩ : AS) = some (false, (⟨loc9 s (.int (k : Int)) x (.ins k) nm (.lst (L6 (fa bf.D))) (.lob O) A B (.lob (tid k)) ahd, L6 (insG adj tid bf), L, N⟩ : AS)) := by
      have h2 : (nums (adj k)).length ≠ 0 := by rw [show (nums (adj k)).length = (adj k).length from List.length_map ..]; exact fun z => h0 (List.length_eq_zero_iff.mp z)
      simp only [eqM, eqF, AV.sc, itemsM, (G.s k h0).1, List.length_nil, if_neg h2]
    exact ite_f ((bd_is (a := .bool false) rfl).trans ((bd_is ((bd_is ((bd_is i1).trans ((bd_is rfl).trans e0))).trans rfl)).trans (ne_same_bool false _)))
theorem s34 (G : GH adj sid tid L O m) (hm : m ≤ 4000) (hO : O < N) (hk : k < 6) : ∃ N', N ≤ N' ∧ S3_4 (⟨loc9 s (.int (k : Int)) x (.ins k) nm (.lst (L6 (fa bf.D))) (.lob O) A B (bsA adj tid k) ahd, L6 (insG adj tid bf), L, N⟩ : AS) = some (.next, (⟨loc9 s (.int (k : Int)) x (.ins k) nm (.lst (L6 (fa bf.D))) (.lob O) A B (bsA adj tid k) ahd, L6 (insG adj tid bf), L, N'⟩ : AS)) := by
  by_cases h0 : adj k = []
  · rw [bsA_0 h0]
    exact ⟨N, Nat.le_refl _, ite_f (and_f rfl)⟩
  · have i1 := fun N => steps_at (s := s) (x := x) (A := A) (B := B) (told := bsA adj tid k) (ahd := ahd) (nm := nm) (N := N) (bf := bf) G hk
    rw [stA_1 h0, bsA_1 h0] at i1
    rw [bsA_1 h0]
    obtain ⟨s1, _, s3⟩ := G.s k h0
    obtain ⟨t1, _, t3⟩ := G.t k h0
    have c4 := frzN (comp4 (I := L6 (insG adj tid bf)) (L := L) (M := N) (loc := loc9 s (.int (k : Int)) x (.ins k) nm (.lst (L6 (fa bf.D))) (.lob O) A B (.lob (tid k)) ahd) (X := .lob (tid k)) (vs := adj k) rfl rfl (by show (match getL1 (tid k) L with | some xs => some (xs, _) | .none => .none) = _; rw [t1]) (fun loc ys => by simp only [cst, itemsM, getL1, lookL, if_neg (show ¬ tid k = N by omega), t1]) (G.lt k) (Nat.le_trans (G.len k) (by omega)))
    refine ⟨N + 1, Nat.le_succ _, ite_f ((and_t rfl).trans (and_f ((bd_is c4).trans ((bd_is (i1 (N + 1))).trans ?_))))⟩
    have hx : ∀ st : AS, itemsM (.lst (nums (adj k))) st = some (nums (adj k), st) := fun _ => rfl
    have hy : ∀ loc I N, itemsM (.lob (sid k)) ⟨loc, I, L, N⟩ = some (nums (adj k), ⟨loc, I, L, N⟩) := fun loc I N => by simp only [itemsM, s1]
    unfold neM
    rw [eq_lists (hx _) (hy _ _ _), if_pos rfl, eq_nums]; rfl
theorem s35 (Bo : B0 adj bf) (hk : k < 6) : S3_5 (⟨loc9 s (.int (k : Int)) x (.ins k) nm (.lst (L6 (fa bf.D))) (.lob O) A B told ahd, L6 (insG adj tid bf), L, N⟩ : AS) = some (.next, (⟨loc9 s (.int (k : Int)) x (.ins k) nm (.lst (L6 (fa bf.D))) (.lob O) A B told ahd, L6 (insG adj tid bf), L, N⟩ : AS)) := by
  have t := (bd_is (g := fun x => bd (pu .none) fun y => isM x y) (far_at (s := s) (x := x) (A := A) (B := B) (told := told) (ahd := ahd) (nm := nm) (N := N) (O := O) (adj := adj) (tid := tid) (L := L) (bf := bf) hk)).trans rfl
  cases q : bf.D k with
  | some d => rw [q] at t; exact ite_f (and_f t)
  | none =>
    rw [q] at t
    obtain ⟨q1, q2⟩ := Bo.en k fun h => by obtain ⟨e, he⟩ := (Bo.mem k).mpr h; rw [q] at he; cases he
    have f1 := fld (s := s) (x := x) (A := A) (B := B) (told := told) (ahd := ahd) (nm := nm) (N := N) (O := O) (adj := adj) (tid := tid) (L := L) (bf := bf) hk .enc
    have f2 := fld (s := s) (x := x) (A := A) (B := B) (told := told) (ahd := ahd) (nm := nm) (N := N) (O := O) (adj := adj) (tid := tid) (L := L) (bf := bf) hk .chr
    rw [show (insG adj tid bf k).get .enc = oI (bf.E k) from rfl, q1] at f1
    rw [show (insG adj tid bf k).get .chr = oS (bf.P k) from rfl, q2] at f2
    exact ite_f ((and_t t).trans (and_f ((bd_is ((bd_is ((bd_is f1).trans ((bd_is (cons_is f2)).trans rfl))).trans rfl)).trans rfl)))
end
--@@
section
variable {s x A B told ahd src nm : AV} {N O m k : Nat} {adj : Nat → List Nat} {sid tid : Nat → Nat} {L : LH} {bf : Bf} {rows : List AV}
theorem s41 (hk : k < 6) (hO : getL1 O L = some rows) (hl : rows.length ≤ 1000) : S4_1 (⟨loc9 s (.int (k : Int)) x (.ins k) nm (.lst (L6 (fa bf.D))) (.lob O) A B told ahd, L6 (insG adj tid bf), L, N⟩ : AS) = some (.next, (⟨loc9 s (.int (k : Int)) x (.ins k) nm (.lst (L6 (fa bf.D))) (.lob O) A B told ahd, L6 (insG adj tid bf), (putL1 O (rows ++ [row bf k]) L), N⟩ : AS)) :=
  drop_is (lmeth_is (o := O) rfl hO (cons3 (fld hk .enc) (far_at hk) (fld hk .enc)) (app_is hO (by omega) _ _ _))
theorem s42 (Bo : B0 adj bf) (hadj : ∀ u, ∀ v ∈ adj u, v < 6) (hk : k < 6) : S4_2 (⟨loc9 s (.int (k : Int)) x (.ins k) nm (.lst (L6 (fa bf.D))) (.lob O) A B told ahd, L6 (insG adj tid bf), L, N⟩ : AS) = some (.next, (⟨loc9 s (.int (k : Int)) x (.ins k) nm (.lst (L6 (fa bf.D))) (.lob O) A B told (.lst (oL (bf.P k))), L6 (insG adj tid bf), L, (N + 1)⟩ : AS)) := by
  have c3 := comp3 (I := L6 (insG adj tid bf)) (L := L) (M := N) (loc := loc9 s (.int (k : Int)) x (.ins k) nm (.lst (L6 (fa bf.D))) (.lob O) A B told ahd) (k := k) (o := bf.P k) rfl hk rfl rfl fun u hu => by
    by_cases z : k ∈ bf.fnd
    · by_cases h0 : k = 0
      · rw [h0, Bo.p0] at hu; cases hu
      · obtain ⟨u', d, h1, h2, h3, _⟩ := Bo.par k z h0
        rw [hu] at h1; cases h1
        exact Bo.lt u ((Bo.mem u).mp ⟨d, h3⟩)
    · rw [(Bo.en k z).2] at hu; cases hu
  have e : asgM C_law_3 (setV 15) ⟨loc9 s (.int (k : Int)) x (.ins k) nm (.lst (L6 (fa bf.D))) (.lob O) A B told ahd, L6 (insG adj tid bf), [] :: L, N⟩ = some (.next, ⟨loc9 s (.int (k : Int)) x (.ins k) nm (.lst (L6 (fa bf.D))) (.lob O) A B told (.lob N), L6 (insG adj tid bf), [(N, oL (bf.P k))] :: L, N + 1⟩) := asg_is c3 rfl
  unfold S4_2 frzS
  rw [e]
  have hz : frzV [(N, oL (bf.P k))] (.lob N) = .lst (oL (bf.P k)) := by simp [frzV, frz0, lookL]
  exact congrArg (fun z => some (AF.next, (⟨loc9 s (.int (k : Int)) x (.ins k) nm (.lst (L6 (fa bf.D))) (.lob O) A B told z, L6 (insG adj tid bf), L, (N + 1)⟩ : AS))) hz
theorem s43 (G : GH adj sid tid L O m) (Bo : B0 adj bf) (hk : k < 6) (hd : ∃ d, bf.D k = some d) : S4_3 (⟨loc9 s (.int (k : Int)) x (.ins k) nm (.lst (L6 (fa bf.D))) (.lob O) A B told (.lst (oL (bf.P k))), L6 (insG adj tid bf), L, N⟩ : AS) = some (.next, (⟨loc9 s (.int (k : Int)) x (.ins k) nm (.lst (L6 (fa bf.D))) (.lob O) A B told (.lst (oL (bf.P k))), L6 (insG adj tid bf), L, N⟩ : AS)) := by
  by_cases h0 : k = 0
  · subst h0; exact ite_f (and_f rfl)
  · obtain ⟨u, d, h1, h2, h3, h4⟩ := Bo.par k ((Bo.mem k).mp hd) h0
    have hu : u < 6 := Bo.lt u ((Bo.mem u).mp ⟨d, h3⟩)
    rw [h1]
    show S4_3 (⟨loc9 s (.int (k : Int)) x (.ins k) nm (.lst (L6 (fa bf.D))) (.lob O) A B told (.lst [.int (u : Int)]), L6 (insG adj tid bf), L, N⟩ : AS) = some (.next, (⟨loc9 s (.int (k : Int)) x (.ins k) nm (.lst (L6 (fa bf.D))) (.lob O) A B told (.lst [.int (u : Int)]), L6 (insG adj tid bf), L, N⟩ : AS))
    obtain ⟨st, hst⟩ : ∃ st, st = (⟨loc9 s (.int (k : Int)) x (.ins k) nm (.lst (L6 (fa bf.D))) (.lob O) A B told (.lst [.int (u : Int)]), L6 (insG adj tid bf), L, N⟩ : AS) := ⟨_, rfl⟩
    have ia : bin2 (var 15) (pu (.int 0)) getItemM st = some (.int (u : Int), st) := by rw [hst]; rfl
    have f1 : bin2 (var 10) (bin2 (var 15) (pu (.int 0)) getItemM) getItemM st = some (.int (d : Int), st) := by
      refine (bd_is (a := .lst (L6 (fa bf.D))) (st1 := st) (by rw [hst]; rfl)).trans ((bd_is ia).trans ((L6_item (fa bf.D) hu st).trans ?_))
      unfold fa; rw [h3]; rfl
    have f2 : bin2 (bin2 (var 10) (var 3) getItemM) (pu (.int 1)) subM st = some (.int (((d + 1 : Nat) : Int) - 1), st) := by
      refine (bd_is (a := oI (bf.D k)) (st1 := st) (by rw [hst]; exact far_at hk)).trans ?_
      rw [h4]; rfl
    have f3 : bin2 (var 6) (bin2 (var 15) (pu (.int 0)) getItemM) getItemM st = some (stA adj sid u, st) := by
      refine (bd_is (a := .lob 1) (st1 := st) (by rw [hst]; rfl)).trans ((bd_is ia).trans ?_)
      rw [hst]; exact lob_item G.st hu _ _ _
    have t1 : cmp2 (var 3) (pu (.int 0)) gtM st = some (true, st) := by
      have z : decide ((0 : Int) < (k : Int)) = true := decide_eq_true (by omega)
      rw [hst, ← z]; rfl
    have t2 : cmp2 (bd (consM (var 15) (pu [])) lenM) (pu (.int 1)) neM st = some (false, st) := by rw [hst]; rfl
    have t3 : cmp2 (bin2 (var 10) (bin2 (var 15) (pu (.int 0)) getItemM) getItemM) (bin2 (bin2 (var 10) (var 3) getItemM) (pu (.int 1)) subM) neM st = some (false, st) := by
      refine (bd_is f1).trans ((bd_is f2).trans ?_)
      rw [show (((d + 1 : Nat) : Int) - 1) = (d : Int) by omega]
      exact ne_same (v := .int (d : Int)) rfl st
    have t4 : cmp2 (var 3) (bin2 (var 6) (bin2 (var 15) (pu (.int 0)) getItemM) getItemM) notInM st = some (false, st) := by
      refine (bd_is (a := .int (k : Int)) (st1 := st) (by rw [hst]; rfl)).trans ((bd_is f3).trans ?_)
      have hne : adj u ≠ [] := fun z => by rw [z] at h2; cases h2
      have hc : ((adj u).map fun (v : Nat) => (v : Int)).contains (k : Int) = true := List.contains_iff_mem.mpr (List.mem_map.mpr ⟨k, h2, rfl⟩)
      have hi : itemsM (.lob (sid u)) st = some (nums (adj u), st) := by rw [hst]; simp only [itemsM, (G.s u hne).1]
      rw [stA_1 hne]
      simp only [notInM, hi, intsOf_nums, hc, Bool.not_true]
    rw [← hst]
    exact ite_f ((and_t t1).trans (and_f ((or_f t2).trans ((or_f t3).trans (or_f t4)))))
theorem body8 (G : GH adj sid tid L O m) (hm : m ≤ 4000) (Bo : B0 adj bf) (hO : getL1 O L = some rows) (hl : rows.length ≤ 1000) (hN : O < N) (hk : k < 6) :
    ∃ ahd' L' N', B_law_8 ⟨loc9 s (.int (k : Int)) x src nm (.lst (L6 (fa bf.D))) (.lob O) A B told ahd, L6 (insG adj tid bf), L, N⟩ = some (.next, (⟨loc9 s (.int (k : Int)) x (.ins k) nm (.lst (L6 (fa bf.D))) (.lob O) A B (bsA adj tid k) ahd', L6 (insG adj tid bf), L', N'⟩ : AS)) ∧ GH adj sid tid L' O m ∧ getL1 O L' = some (rows ++ rowL bf k) ∧ N ≤ N' := by
  obtain ⟨N1, hN1, e4⟩ := s34 (s := s) (x := x) (A := A) (B := B) (ahd := ahd) (nm := nm) (bf := bf) G hm hN hk
  have e1 := s31 (s := s) (x := x) (A := A) (B := B) (told := told) (ahd := ahd) (src := src) (nm := nm) (N := N) (O := O) (adj := adj) (tid := tid) (L := L) (bf := bf) hk
  have tt := fun N => (bd_is (g := fun x => bd (pu .none) fun y => isNotM x y) (far_at (s := s) (x := x) (A := A) (B := B) (told := bsA adj tid k) (ahd := ahd) (nm := nm) (N := N) (O := O) (adj := adj) (tid := tid) (L := L) (bf := bf) hk)).trans rfl
  have go : ∀ {R}, S3_6 (⟨loc9 s (.int (k : Int)) x (.ins k) nm (.lst (L6 (fa bf.D))) (.lob O) A B (bsA adj tid k) ahd, L6 (insG adj tid bf), L, N1⟩ : AS) = R → (∃ st, R = some (.next, st)) → B_law_8 ⟨loc9 s (.int (k : Int)) x src nm (.lst (L6 (fa bf.D))) (.lob O) A B told ahd, L6 (insG adj tid bf), L, N⟩ = R := fun {R} h ⟨st, hR⟩ => by
    subst hR
    exact (then_next e1).trans ((then_next (s32 hk)).trans ((then_next (s33 G hk)).trans ((then_next e4).trans ((then_next (s35 Bo hk)).trans ((then_next h).trans rfl)))))
  cases q : bf.D k with
  | none =>
    have t := tt N1
    rw [q] at t
    refine ⟨ahd, L, N1, go (ite_f t) ⟨_, rfl⟩, G, ?_, hN1⟩
    unfold rowL; rw [q]; simpa using hO
  | some d =>
    have t := tt N1
    rw [q] at t
    have same : ∀ j, j < O → getL1 j (putL1 O (rows ++ [row bf k]) L) = getL1 j L := fun j hj => get_put_ne (by omega) L
    have G' : GH adj sid tid (putL1 O (rows ++ [row bf k]) L) O m := G.frame same (Nat.le_refl _)
    refine ⟨_, _, N1 + 1, go ((ite_t t).trans ((then_next (s41 hk hO hl)).trans ((then_next (s42 Bo G.lt hk)).trans ((then_next (s43 G' Bo hk ⟨d, q⟩)).trans rfl)))) ⟨_, rfl⟩, G', ?_, by omega⟩
    unfold rowL; rw [q]; exact get_put_self hO
theorem bodies8 (Bo : B0 adj bf) (hm : m ≤ 4000) : ∀ (ks : List Nat) {k0 src told ahd : AV} {L : LH} {N : Nat} {rows : List AV}, GH adj sid tid L O m → getL1 O L = some rows → rows.length + ks.length ≤ 1000 → O < N → (∀ k ∈ ks, k < 6) →
    ∃ k' src' told' ahd' L' N', forG nxL (setV 3) B_law_8 (ks.length + 1) (ks.map fun (n : Nat) => AV.int (n : Int)) ⟨loc9 s k0 x src nm (.lst (L6 (fa bf.D))) (.lob O) A B told ahd, L6 (insG adj tid bf), L, N⟩ = some (.next, ⟨loc9 s k' x src' nm (.lst (L6 (fa bf.D))) (.lob O) A B told' ahd', L6 (insG adj tid bf), L', N'⟩) ∧ GH adj sid tid L' O m ∧ getL1 O L' = some (rows ++ ks.flatMap (rowL bf)) ∧ O < N'
  | [], k0, src, told, ahd, L, N, rows, G, hO, _, hN, _ => ⟨k0, src, told, ahd, L, N, rfl, G, by simpa using hO, hN⟩
  | k :: ks, k0, src, told, ahd, L, N, rows, G, hO, hl, hN, hk => by
    rw [List.length_cons] at hl
    obtain ⟨a1, L1, N1, e1, G1, o1, n1⟩ := body8 (s := s) (x := x) (A := A) (B := B) (told := told) (ahd := ahd) (src := src) (nm := nm) G hm Bo hO (by omega) hN (hk k List.mem_cons_self)
    have hr : (rowL bf k).length ≤ 1 := by unfold rowL; split <;> simp
    obtain ⟨k', src', told', ahd', L', N', e2, G2, o2, n2⟩ := bodies8 Bo hm ks (k0 := .int (k : Int)) (src := .ins k) (told := bsA adj tid k) (ahd := a1) (N := N1) G1 o1 (by rw [List.length_append]; omega) (by omega) fun j hj => hk j (List.mem_cons_of_mem _ hj)
    refine ⟨k', src', told', ahd', L', N', ?_, G2, ?_, n2⟩
    · exact (forL_cons (st1 := ⟨loc9 s (.int (k : Int)) x src nm (.lst (L6 (fa bf.D))) (.lob O) A B told ahd, L6 (insG adj tid bf), L, N⟩) rfl e1).trans e2
    · rw [List.flatMap_cons, ← List.append_assoc]; exact o2
end
--@@
/-! the order -/
noncomputable def dn (bf : Bf) (v : Nat) : Nat := (bf.D v).getD 0
noncomputable def en (bf : Bf) (v : Nat) : Nat := (bf.E v).getD 0
noncomputable def rw3 (bf : Bf) (v : Nat) : List Int := [(en bf v : Int), (dn bf v : Int), (en bf v : Int)]
noncomputable def six6 : List Nat := [0, 1, 2, 3, 4, 5]
noncomputable def rch (bf : Bf) : List Nat := six6.filter fun v => (bf.D v).isSome
section
variable {adj : Nat → List Nat} {bf : Bf}
theorem rch_perm (Bo : B0 adj bf) : bf.fnd.Perm (rch bf) := by
  refine (List.perm_ext_iff_of_nodup Bo.nd (List.filter_sublist.nodup (by decide))).mpr fun v => ?_
  rw [List.mem_filter, ← Bo.mem v, Option.isSome_iff_exists]
  refine ⟨fun h => ⟨?_, h⟩, fun h => h.2⟩
  have := Bo.lt v ((Bo.mem v).mp h)
  rcases six this with rfl | rfl | rfl | rfl | rfl | rfl <;> decide
theorem rows_eq (Bo : B0 adj bf) : ∀ ks : List Nat, ks.flatMap (rowL bf) = ((ks.filter fun v => (bf.D v).isSome).map (rw3 bf)).map lstRow
  | [] => rfl
  | v :: ks => by
    rw [List.flatMap_cons, rows_eq Bo ks, List.filter_cons]
    cases q : bf.D v with
    | none => unfold rowL; rw [q]; rfl
    | some d =>
      obtain ⟨i, hi, e⟩ := List.mem_iff_getElem.mp ((Bo.mem v).mp ⟨d, q⟩)
      have he := Bo.he i v (by rw [List.getElem?_eq_getElem hi, e])
      unfold rowL row
      rw [q, he]
      show AV.lst [.int (i : Int), .int (d : Int), .int (i : Int)] :: _ = lstRow (rw3 bf v) :: _
      unfold lstRow rw3 en dn
      rw [q, he]; rfl
noncomputable def keepA (x : AV) : List AV := match x with
  | .none => []
  | x => [x]
theorem dues_eq : ∀ ks : List Nat, (ks.map (fa bf.D)).flatMap keepA = nums ((ks.filter fun v => (bf.D v).isSome).map (dn bf))
  | [] => rfl
  | v :: ks => by
    rw [List.map_cons, List.flatMap_cons, dues_eq ks, List.filter_cons]
    unfold fa
    cases q : bf.D v with
    | none => rfl
    | some d =>
      show AV.int (d : Int) :: _ = AV.int ((dn bf v : Nat) : Int) :: _
      unfold dn
      rw [q]; rfl
theorem dn_le (Bo : B0 adj bf) {i j : Nat} (hi : i < bf.fnd.length) (hj : j < bf.fnd.length) (h : i ≤ j) : dn bf bf.fnd[i] ≤ dn bf bf.fnd[j] := by
  obtain ⟨a, ha⟩ := (Bo.mem _).mpr (List.getElem_mem hi)
  obtain ⟨b, hb⟩ := (Bo.mem _).mpr (List.getElem_mem hj)
  unfold dn
  rw [ha, hb]
  exact Bo.mono i j _ _ a b h (List.getElem?_eq_getElem hi) (List.getElem?_eq_getElem hj) ha hb
theorem en_at (Bo : B0 adj bf) {i : Nat} (hi : i < bf.fnd.length) : en bf bf.fnd[i] = i := by
  unfold en; rw [Bo.he i _ (List.getElem?_eq_getElem hi)]; rfl
theorem dues_sorted (Bo : B0 adj bf) : (bf.fnd.map fun v => (dn bf v : Int)) = sortI ((rch bf).map fun v => (dn bf v : Int)) := by
  refine sortI_is ((rch_perm Bo).map _) (List.pairwise_iff_getElem.mpr fun i j hi hj h => ?_)
  rw [List.length_map] at hi hj
  rw [List.getElem_map, List.getElem_map]
  exact Int.ofNat_le.mpr (dn_le Bo hi hj (Nat.le_of_lt h))
theorem rows_sorted (Bo : B0 adj bf) : bf.fnd.map (rw3 bf) = sortR ((rch bf).map (rw3 bf)) := by
  refine sortR_is ((rch_perm Bo).map _) (List.pairwise_iff_getElem.mpr fun i j hi hj h => ?_)
  rw [List.length_map] at hi hj
  rw [List.getElem_map, List.getElem_map]
  unfold rw3
  rw [en_at Bo hi, en_at Bo hj]
  exact List.not_lt.mp fun z => by
    rw [List.cons_lt_cons_iff] at z
    omega
theorem flat_one {α β : Type} (f : α → β) : ∀ l : List α, l.flatMap (fun x => [f x]) = l.map f
  | [] => rfl
  | x :: l => by rw [List.flatMap_cons, flat_one f l]; rfl
theorem rowsOf_lst : ∀ rs : List (List Int), rowsOf (rs.map lstRow) = some rs
  | [] => rfl
  | r :: rs => by
    have h : ∀ r : List Int, intsOf (r.map AV.int) = some r := fun r => by
      induction r with
      | nil => rfl
      | cons i r ih => simp only [List.map_cons, intsOf, ih]
    show rowsOf (.lst (r.map .int) :: rs.map lstRow) = _
    simp only [rowsOf, h, rowsOf_lst rs]
theorem eq_row (st : AS) : ∀ rs : List (List Int), eqAll (eqF st 7) (rs.map lstRow) (rs.map lstRow) = some true
  | [] => rfl
  | r :: rs => by
    have h1 : ∀ r : List Int, eqAll (eqF st 6) (r.map AV.int) (r.map AV.int) = some true := fun r => by
      induction r with
      | nil => rfl
      | cons i r ih =>
        have h : eqF st 6 (.int i) (.int i) = some true := pl_eq (v := .int i) rfl st 5
        simp only [List.map_cons, eqAll, h, ih, Bool.and_self]
    have h2 : eqF st 7 (lstRow r) (lstRow r) = some true := by
      have hx : itemsM (lstRow r) st = some (r.map AV.int, st) := rfl
      rw [eq_lists hx hx, if_pos rfl, h1]
    simp only [List.map_cons, eqAll, h2, eq_row st rs, Bool.and_self]
end
noncomputable def locZ (s k x dues src nm far ord A B told ahd : AV) : List AV := [s, .lst (L6 nmA), .lst (L6 AV.ins), k, x, dues, .lob 1, .lob 2, src, nm, far, ord, A, B, told, ahd]
section
variable {s k x src nm A B told ahd : AV} {N O m : Nat} {adj : Nat → List Nat} {sid tid : Nat → Nat} {L : LH} {bf : Bf} {I : List Ins}
theorem s110 (Bo : B0 adj bf) : S1_10 ⟨locZ s k x .unb src nm (.lst (L6 (fa bf.D))) (.lob O) A B told ahd, I, L, N⟩ = some (.next, ⟨locZ s k x (.lst (nums (bf.fnd.map (dn bf)))) src nm (.lst (L6 (fa bf.D))) (.lob O) A B told ahd, I, L, N + 1⟩) := by
  have hd := dues_eq (bf := bf) six6
  have hd' : (L6 (fa bf.D)).flatMap keepA = nums ((rch bf).map (dn bf)) := hd
  have hl : ((rch bf).map (dn bf)).length ≤ 6 := by rw [List.length_map]; exact List.length_filter_le _ _
  have c2 : C_law_2 ⟨locZ s k x .unb src nm (.lst (L6 (fa bf.D))) (.lob O) A B told ahd, I, [] :: L, N⟩ = some (.lob N, ⟨locZ s k x .unb src nm (.lst (L6 (fa bf.D))) (.lob O) A B told ahd, I, [(N, nums ((rch bf).map (dn bf)))] :: L, N + 1⟩) := by
    rw [← hd']
    refine comp_is (R := fun loc => ∃ a, loc = [a]) (xs := L6 (fa bf.D)) (i := (.lst (L6 (fa bf.D)), 0)) rfl rfl (by have := wlk_A (ok := fun st => ∃ loc ys, st = cst I L N loc ys) (X := .lst (L6 (fa bf.D))) (zs := L6 (fa bf.D)) (fun _ _ => rfl) 6 0 rfl; exact this) (fun v hv => ?_) ⟨.unb, rfl⟩ (by rw [hd', nums, List.length_map]; omega)
    obtain ⟨o, rfl⟩ : ∃ o, v = oI o := by simp [L6] at hv; rcases hv with rfl | rfl | rfl | rfl | rfl | rfl <;> exact ⟨_, rfl⟩
    cases o with
    | none => exact item_one (by decide) (lc := [.none]) (b := false) (v := .none) (fun loc ys ⟨a, ha⟩ => by rw [ha]; rfl) ⟨_, rfl⟩ (fun _ => rfl) (fun h => by cases h) rfl
    | some d => exact item_one (by decide) (lc := [.int (d : Int)]) (b := true) (v := .int (d : Int)) (fun loc ys ⟨a, ha⟩ => by rw [ha]; rfl) ⟨_, rfl⟩ (fun _ => rfl) (fun _ _ => rfl) rfl
  have e : sortedM [.lst (nums ((rch bf).map (dn bf)))] ⟨locZ s k x .unb src nm (.lst (L6 (fa bf.D))) (.lob O) A B told ahd, I, L, N + 1⟩ = some (.lst (nums (bf.fnd.map (dn bf))), ⟨locZ s k x .unb src nm (.lst (L6 (fa bf.D))) (.lob O) A B told ahd, I, L, N + 1⟩) := by
    simp only [sortedM, itemsM, intsOf_nums]
    rw [if_pos (by rw [List.length_map]; omega), List.map_map]
    have h := dues_sorted Bo
    have h2 : sortI ((rch bf).map ((fun (v : Nat) => (v : Int)) ∘ dn bf)) = bf.fnd.map fun v => (dn bf v : Int) := h.symm
    rw [h2]
    unfold nums
    rw [List.map_map, List.map_map]
    rfl
  exact asg_is ((bd_is (cons_is (frzN c2))).trans e) rfl
theorem range_is {n : Nat} (h : n ≤ 6) (st : AS) : rangeM [.int (n : Int)] st = some (nums (List.range n), st) := by
  have : n = 0 ∨ n = 1 ∨ n = 2 ∨ n = 3 ∨ n = 4 ∨ n = 5 ∨ n = 6 := by omega
  rcases this with rfl | rfl | rfl | rfl | rfl | rfl | rfl <;> rfl
theorem s111 (Bo : B0 adj bf) (hO : getL1 O L = some (six6.flatMap (rowL bf))) : S1_11 ⟨locZ s k x (.lst (nums (bf.fnd.map (dn bf)))) src nm (.lst (L6 (fa bf.D))) (.lob O) A B told ahd, I, L, N⟩ = some (.next, ⟨locZ s k x (.lst (nums (bf.fnd.map (dn bf)))) src nm (.lst (L6 (fa bf.D))) (.lob O) A B told ahd, I, L, N + 1⟩) := by
  obtain ⟨loc, hloc⟩ : ∃ loc, loc = locZ s k x (.lst (nums (bf.fnd.map (dn bf)))) src nm (.lst (L6 (fa bf.D))) (.lob O) A B told ahd := ⟨_, rfl⟩
  have hn := Bo.len
  have hl : (rch bf).length ≤ 6 := List.length_filter_le _ _
  have hr : six6.flatMap (rowL bf) = ((rch bf).map (rw3 bf)).map lstRow := rows_eq Bo six6
  have e1 : sortedM [.lob O] ⟨loc, I, L, N⟩ = some (.lst ((bf.fnd.map (rw3 bf)).map lstRow), ⟨loc, I, L, N⟩) := by
    have hi : intsOf (((rch bf).map (rw3 bf)).map lstRow) = .none := by
      have h0 : (0 : Nat) ∈ rch bf := (rch_perm Bo).mem_iff.mp (List.mem_of_getElem? Bo.hd)
      cases q : rch bf with
      | nil => rw [q] at h0; cases h0
      | cons v r => rfl
    have hall : ((rch bf).map (rw3 bf)).all (fun r => decide (r.length = 3)) = true := by
      rw [List.all_map]; exact List.all_eq_true.mpr fun v _ => rfl
    simp only [sortedM, itemsM, hO, hr, hi, rowsOf_lst]
    rw [if_pos ⟨by rw [List.length_map]; omega, hall⟩, ← rows_sorted Bo]
  have ht : (nums (List.range bf.fnd.length)).flatMap (fun v => [AV.lst [v, .int ((bf.fnd.map (dn bf)).getD (natA v) 0 : Int), v]]) = (bf.fnd.map (rw3 bf)).map lstRow := by
    rw [flat_nums]
    refine (flat_one (fun j : Nat => AV.lst [.int (j : Int), .int ((bf.fnd.map (dn bf)).getD j 0 : Int), .int (j : Int)]) _).trans ?_
    refine List.ext_getElem (by simp) fun i h1 h2 => ?_
    have hi : i < bf.fnd.length := by simpa using h1
    simp only [List.getElem_map, List.getElem_range]
    unfold rw3 lstRow
    rw [en_at Bo hi]
    simp [hi]
  have c1 : C_law_1 ⟨loc, I, [] :: L, N⟩ = some (.lob N, ⟨loc, I, [(N, (bf.fnd.map (rw3 bf)).map lstRow)] :: L, N + 1⟩) := by
    rw [← ht]
    refine comp_is (R := fun loc => ∃ a, loc = [a, .lst (nums (bf.fnd.map (dn bf)))]) (xs := nums (List.range bf.fnd.length)) (i := nums (List.range bf.fnd.length)) ?_ rfl (wlk_L _ _) (fun v hv => ?_) ⟨.unb, by rw [hloc]; rfl⟩ (by rw [ht]; simp; omega)
    · refine (bd_is (a := [.int (bf.fnd.length : Int)]) (cons_is ?_)).trans (range_is hn _)
      refine (bd_is (a := [.lst (nums (bf.fnd.map (dn bf)))]) (st1 := ⟨loc, I, [] :: L, N⟩) (by rw [hloc]; rfl)).trans ?_
      have hl : (nums (bf.fnd.map (dn bf))).length = bf.fnd.length := by unfold nums; rw [List.length_map, List.length_map]
      simp only [lenM, itemsM, hl]
      rw [if_pos (by omega)]
    · obtain ⟨t, ht', rfl⟩ := List.mem_map.mp hv
      have htl : t < bf.fnd.length := List.mem_range.mp ht'
      refine item_one (by decide) (lc := [.int (t : Int), .lst (nums (bf.fnd.map (dn bf)))]) (b := true) (v := .lst [.int (t : Int), .int ((bf.fnd.map (dn bf)).getD t 0 : Int), .int (t : Int)]) (fun loc ys ⟨a, ha⟩ => by rw [ha]; rfl) ⟨_, rfl⟩ (fun _ => rfl) (fun _ ys => ?_) rfl
      have it : bin2 (var 1) (var 0) getItemM (cst I L N [.int (t : Int), .lst (nums (bf.fnd.map (dn bf)))] ys) = some (.int ((bf.fnd.map (dn bf)).getD t 0 : Int), cst I L N [.int (t : Int), .lst (nums (bf.fnd.map (dn bf)))] ys) := by
        refine item_lst (by unfold nums; rw [List.length_map, List.length_map]; omega) ?_ _
        simp [nums, htl]
      exact cons3 (v1 := .int (t : Int)) rfl it rfl
  rw [← hloc]
  refine ite_f ((bd_is ((bd_is (cons_is (v := .lob O) (st1 := ⟨loc, I, L, N⟩) (by rw [hloc]; rfl))).trans e1)).trans ((bd_is (frzN c1)).trans ?_))
  have hx : ∀ st : AS, itemsM (.lst ((bf.fnd.map (rw3 bf)).map lstRow)) st = some ((bf.fnd.map (rw3 bf)).map lstRow, st) := fun _ => rfl
  unfold neM
  rw [eq_lists (hx _) (hx _), if_pos rfl, eq_row]; rfl
theorem s112 {dues far ord : AV} (G : GH adj sid tid L O m) (hm : m ≤ 5000) (h0 : bf.P 0 = .none) : S1_12 ⟨locZ s k x dues src nm far ord A B told ahd, L6 (insG adj tid bf), L, N⟩ = some (.ret (.bool true), ⟨locZ s k x dues src nm far ord A B told ahd, L6 (insG adj tid bf), L, N⟩) := by
  obtain ⟨as, h1, h2, h3⟩ := G.ans
  obtain ⟨st, hst⟩ : ∃ st : AS, st = ⟨locZ s k x dues src nm far ord A B told ahd, L6 (insG adj tid bf), L, N⟩ := ⟨_, rfl⟩
  have e := eqAll_nones st as h2
  have hi : itemsM (.lob 2) st = some (as, st) := by rw [hst]; simp only [itemsM, h1]
  have t1 : boolV (cmp2 (methM (bin2 (var 2) (pu (.int 0)) getItemM) (pu []) (getF .chr)) (pu .none) isM) st = some (.bool true, st) := by
    have g1 := meth_is (F := getF .chr) (fo := bin2 (var 2) (pu (.int 0)) getItemM) (fs := pu []) (st := st) (k := 0) (by rw [hst]; rfl) rfl (by rw [hst]; exact get_is (insG adj tid bf) (by decide) .chr _ _ _)
    rw [show (insG adj tid bf 0).get .chr = oS (bf.P 0) from rfl, h0, ← hst] at g1
    exact (bd_is ((bd_is g1).trans rfl)).trans rfl
  have t2 : boolV (cmp2 (var 7) (bin2 (bd (consM (pu .none) (pu [])) lstM) (bd (consM (var 7) (pu [])) lenM) mulLM) eqM) st = some (.bool true, st) := by
    have v7 : var 7 st = some (.lob 2, st) := by rw [hst]; rfl
    have ln : bd (consM (var 7) (pu [])) lenM st = some (.int (as.length : Int), st) := by
      refine (bd_is (cons_is v7)).trans ?_
      simp only [lenM, hi]
      rw [if_pos (by omega)]
    have ml : bin2 (bd (consM (pu .none) (pu [])) lstM) (bd (consM (var 7) (pu [])) lenM) mulLM st = some (.lst (List.replicate as.length .none), st) := by
      refine (bd_is (a := .lst [.none]) rfl).trans ((bd_is ln).trans ?_)
      simp only [mulLM, AV.int?, itemsM, Int.toNat_natCast]
      rw [if_pos ⟨by omega, by omega, by simp; omega⟩]
      simp
    have hj : itemsM (.lst (List.replicate as.length .none)) st = some (List.replicate as.length .none, st) := rfl
    refine (bd_is ((bd_is v7).trans ((bd_is ml).trans (show eqM (.lob 2) (.lst (List.replicate as.length .none)) st = some (true, st) from ?_)))).trans rfl
    unfold eqM
    rw [eq_lists hi hj, if_pos (List.length_replicate ..).symm, e]
  rw [← hst]
  exact (bd_is ((bd_is t1).trans t2)).trans rfl
end
--@@
theorem p14 (s : AV) : ∀ g : Cm AF, thenM S1_1 (thenM S1_2 (thenM S1_3 (thenM S1_4 g))) ⟨[s, .unb, .unb, .unb, .unb, .unb, .unb, .unb, .unb, .unb, .unb, .unb, .unb, .unb, .unb, .unb], [], [[]], 0⟩ = g ⟨loc5 s .unb .unb .unb, L6 (insG (fun _ => []) (fun _ => 0) bE), [[(2, [.none, .none, .none]), (1, [.lst [], .lst [], .lst [], .lst [], .lst [], .lst []])]], 3⟩ := by
  intro g
  kernel_rfl
theorem p5 {s : AV} (ns ms : List Int) (hs : s = .lsb (ns.map .int)) (hm : ms = [6, 13, 18] ++ ns) (h : ns.length ≤ 63) (A : AV) (B : AV) (C : AV) (I : List Ins) (L : LH) (N : Nat) :
    bd (bin2 (bd (consM (pu (.int 6)) (consM (pu (.int 13)) (consM (pu (.int 18)) (pu [])))) lstM) (var 0) addM) lstIt ⟨loc5 s A B C, I, L, N⟩ = some (ms.map .int, ⟨loc5 s A B C, I, L, N⟩) := by
  have e : addM (.lst [.int 6, .int 13, .int 18]) s ⟨loc5 s A B C, I, L, N⟩ = some (.lst (ms.map .int), ⟨loc5 s A B C, I, L, N⟩) := by
    subst hs hm
    simp [addM, AV.int?, addLM, itemsM, items2M, show 3 + ns.length ≤ 100000 by omega]
  have v0 : var 0 ⟨loc5 s A B C, I, L, N⟩ = some (s, ⟨loc5 s A B C, I, L, N⟩) := by subst hs; rfl
  exact (bd_is (a := AV.lst (ms.map .int)) ((bd_is (a := AV.lst [.int 6, .int 13, .int 18]) rfl).trans ((bd_is v0).trans e))).trans rfl
theorem GH0 : GH (fun _ => []) (fun _ => 0) (fun _ => 0) [[(2, [.none, .none, .none]), (1, [.lst [], .lst [], .lst [], .lst [], .lst [], .lst []])]] 3 3 :=
  ⟨fun _ _ h => (nomatch h), fun _ => Nat.zero_le _, rfl, fun _ h => absurd rfl h, fun _ h => absurd rfl h, fun _ _ h => absurd rfl h, Nat.le_refl _, ⟨_, rfl, three_nones, Nat.le_refl _⟩⟩
theorem plain (ns : List Int) (h : ns.length ≤ 63) : ∃ st', B_law ⟨.lsb (ns.map .int) :: List.replicate 15 .unb, [], [[]], 0⟩ = some (.ret (.bool true), st') := by
  have hu : List.replicate 15 AV.unb = [.unb, .unb, .unb, .unb, .unb, .unb, .unb, .unb, .unb, .unb, .unb, .unb, .unb, .unb, .unb] := rfl
  rw [hu]
  obtain ⟨s, hs⟩ : ∃ s, s = AV.lsb (ns.map .int) := ⟨_, rfl⟩
  obtain ⟨ms, hms⟩ : ∃ ms : List Int, ms = [6, 13, 18] ++ ns := ⟨_, rfl⟩
  have lms : ms.length = 3 + ns.length := by rw [hms]; simp; omega
  obtain ⟨x, A, B, adj, sid, tid, L, N, e5, G⟩ := steps5 (s := s) ms (x0 := .unb) (A := .unb) (B := .unb) GH0 (by omega) (by omega)
  have lm : (ms.map AV.int).length = ms.length := List.length_map ..
  rw [← lm] at e5
  have e5' : S1_5 _ = _ := forL_is (p5 ns ms hs hms h _ _ _ _ _ _) e5
  obtain ⟨L1, m1, e6, G1, hm1⟩ := s16 (s := s) (x := x) (a := A) (b := B) G (by omega)
  obtain ⟨bf, hbf⟩ : ∃ bf, bf = bfs adj 6 := ⟨_, rfl⟩
  have Bo : B0 adj bf := by rw [hbf]; exact (bfs_ok G.lt 6).b
  have hD : turns adj 5 = bf.D := by rw [hbf]; funext v; exact (same_way G.lt v).symm
  rw [← hbf] at e6
  obtain ⟨src, nm, L2, e7, G2⟩ := agains_run (s := s) (k0 := .int 5) (x := x) (A := A) (B := B) (bf := bf) [0, 1, 2, 3, 4, 5] (src := .unb) (nm := .unb) G1 (by simp; omega) (by decide)
  have e7' : S1_7 ⟨loc5 s x A B, L6 (insG adj tid bf), L1, N + 2⟩ = some (.next, ⟨locZ s (.int 5) x .unb src nm .unb .unb A B .unb .unb, L6 (insG adj tid bf), L2, N + 2⟩) := by
    rw [S1_7, forM', bd_is (a := (L6 AV.ins, L6 nmA)) (st1 := ⟨loc5 s x A B, L6 (insG adj tid bf), L1, N + 2⟩) rfl]
    exact e7
  have f := far_run (I := L6 (insG adj tid bf)) G2 (locZ s (.int 5) x .unb src nm .unb .unb A B .unb .unb)
  rw [hD] at f
  have e8 : S1_8 ⟨locZ s (.int 5) x .unb src nm .unb .unb A B .unb .unb, L6 (insG adj tid bf), L2, N + 2⟩ = some (.next, ⟨locZ s (.int 5) x .unb src nm (.lst (L6 (fa bf.D))) (.lob (N + 3)) A B .unb .unb, L6 (insG adj tid bf), pushL1 (N + 3) [] L2, N + 4⟩) :=
    asg_is (v := .tup [.lst (L6 (fa bf.D)), .lob (N + 3)]) (st1 := ⟨locZ s (.int 5) x .unb src nm .unb .unb A B .unb .unb, L6 (insG adj tid bf), pushL1 (N + 3) [] L2, N + 4⟩) ((bd_is (a := [.lst (L6 (fa bf.D)), .lob (N + 3)]) (st1 := ⟨locZ s (.int 5) x .unb src nm .unb .unb A B .unb .unb, L6 (insG adj tid bf), pushL1 (N + 3) [] L2, N + 4⟩) ((bd_is ((bd_is (cons_is (v := .lob 1) rfl)).trans f)).trans rfl)).trans rfl) rfl
  have G3 : GH adj sid tid (pushL1 (N + 3) [] L2) (N + 3) (m1 + 2 * [0, 1, 2, 3, 4, 5].length) := G2.frame (fun j hj => get_push_ne (by omega) L2) (by omega)
  obtain ⟨k', src', told', ahd', L', N', e9, G4, o4, n4⟩ := bodies8 (s := s) (x := x) (A := A) (B := B) (nm := nm) Bo (by simp; omega) [0, 1, 2, 3, 4, 5] (k0 := .int 5) (src := src) (told := .unb) (ahd := .unb) (N := N + 4) G3 (get_push_self L2) (by simp) (by omega) (by decide)
  have e9' : S1_9 _ = _ := forL_is (xs := [0, 1, 2, 3, 4, 5].map fun (n : Nat) => AV.int (n : Int)) rfl e9
  rw [List.nil_append] at o4
  have e10 := s110 (s := s) (k := k') (x := x) (src := src') (nm := nm) (A := A) (B := B) (told := told') (ahd := ahd') (O := N + 3) (I := L6 (insG adj tid bf)) (L := L') (N := N') Bo
  have e11 := s111 (s := s) (k := k') (x := x) (src := src') (nm := nm) (A := A) (B := B) (told := told') (ahd := ahd') (I := L6 (insG adj tid bf)) (N := N' + 1) Bo o4
  have e12 := s112 (s := s) (k := k') (x := x) (src := src') (nm := nm) (A := A) (B := B) (told := told') (ahd := ahd') (N := N' + 1 + 1) (bf := bf) (dues := .lst (nums (bf.fnd.map (dn bf)))) (far := .lst (L6 (fa bf.D))) (ord := .lob (N + 3)) G4 (by simp; omega) Bo.p0
  rw [← hs]
  exact ⟨_, (p14 s _).trans ((then_next e5').trans ((then_next e6).trans ((then_next e7').trans ((then_next e8).trans ((then_next e9').trans ((then_next e10).trans ((then_next e11).trans (then_ret e12))))))))⟩

end Mine
set_option maxRecDepth 100000 in
set_option maxHeartbeats 8000000 in
theorem PySem.Challenge.cw_dn0304_05_holds : PySem.Challenge.rw_dn0304_05.Holds :=
  hd05 (by
  k_go0
  have KX := ‹(hd05.heap_39 _).In _›
  have T := ‹Top _ _ _ _ _ _›
  have F := ‹Fr _ _ _ _›
  have hL := ‹Heap.IsList _ _ _›
  have hI := ‹IntsAre _ _›
  have hB := T.builtins
  have G : Mine.Gd (Mine.cx _ _ _ _) := ⟨KX, T.g, T.b, T.nolimit⟩
  have NN := ‹News _ _ _ _›
  have XX := ‹CellsAre _ _ _›
  refine Mine.law_okC (n := 12) (x := "script") (others := ["names", "sources", "k", "x", "dues", "steps", "answers", "source", "name", "far", "order", "a", "b", "told", "ahead"]) (f := Mine.B_law) G ?hS (by decide) rfl (by decide +kernel) (by decide +kernel) F NN XX (fun h => by first | rfl | exact absurd h (by decide +kernel)) (fun h => by first | rfl | exact absurd h (by decide +kernel)) hL hI (Mine.plain _ (by omega)) (fun s' k1 k2 k3 => ?_)
  case hS =>
    open Mine in
    refine ImplS.cons ?_ ?_
    · refine ImplS1.assign ?_ ?_
      · refine ImplE.list ?_
        refine ImplEs.cons ?_ ?_
        · exact ImplE.cstr
        refine ImplEs.cons ?_ ?_
        · exact ImplE.cstr
        refine ImplEs.cons ?_ ?_
        · exact ImplE.cstr
        refine ImplEs.cons ?_ ?_
        · exact ImplE.cstr
        refine ImplEs.cons ?_ ?_
        · exact ImplE.cstr
        refine ImplEs.cons ?_ ?_
        · exact ImplE.cstr
        exact ImplEs.nil
      exact ImplA.name (i := 1) rfl rfl
    refine ImplS.cons ?_ ?_
    · refine ImplS1.assign ?_ ?_
      · refine ImplE.frz ?_
        refine ImplE.compN (tv := ["k"]) (cp := ["names"]) (caps := [1]) (size := sizeL) (gt := goesT) (Comp2Is.of rfl (by decide +kernel)) ?_ ?_ ?_ ?_ (turn_1 _ _ _ _ _ _)
        · refine ImplI.range G rfl (g_range G hB) ?_
          refine ImplEs.cons ?_ ?_
          · exact ImplE.cint
          exact ImplEs.nil
        · exact ImplA.name (i := 0) rfl rfl
        · exact ImplC.nil
        refine ImplM.one ?_
        refine ImplE.ifexp ?_ ?_ ?_
        · refine ImplT.cmp ?_ ?_ eq_ok
          · refine ImplE.bin ?_ ?_ mod_ok
            · exact ImplE.name (i := 0) rfl (by decide +kernel)
            exact ImplE.cint
          exact ImplE.cint
        · refine e_new G rfl ?_
          exact ImplEs.nil
        refine e_new G rfl ?_
        refine ImplEs.cons ?_ ?_
        · refine ImplE.item ?_ ?_
          · exact ImplE.name (i := 1) rfl (by decide +kernel)
          exact ImplE.name (i := 0) rfl (by decide +kernel)
        exact ImplEs.nil
      exact ImplA.name (i := 2) rfl rfl
    refine ImplS.cons ?_ ?_
    · refine ImplS1.swapped (names := ["steps", "answers"]) ?_ rfl ?_
      · refine ImplE.tuple ?_
        refine ImplEs.cons ?_ ?_
        · refine ImplE.listMut ?_
          refine ImplEs.cons ?_ ?_
          · refine ImplE.list ?_
            exact ImplEs.nil
          refine ImplEs.cons ?_ ?_
          · refine ImplE.list ?_
            exact ImplEs.nil
          refine ImplEs.cons ?_ ?_
          · refine ImplE.list ?_
            exact ImplEs.nil
          refine ImplEs.cons ?_ ?_
          · refine ImplE.list ?_
            exact ImplEs.nil
          refine ImplEs.cons ?_ ?_
          · refine ImplE.list ?_
            exact ImplEs.nil
          refine ImplEs.cons ?_ ?_
          · refine ImplE.list ?_
            exact ImplEs.nil
          exact ImplEs.nil
        refine ImplEs.cons ?_ ?_
        · refine ImplE.listMut ?_
          exact ImplEs.nil
        exact ImplEs.nil
      refine ImplN.cons (i := 7) rfl rfl ?_
      refine ImplN.cons (i := 6) rfl rfl ?_
      exact ImplN.nil
    refine ImplS.cons ?_ ?_
    · refine ImplS1.for (size := sizeL) (gt := goesT) ?_ ?_ ?_
      · refine ImplI.list ?_
        refine ImplE.list ?_
        refine ImplEs.cons ?_ ?_
        · exact ImplE.cint
        refine ImplEs.cons ?_ ?_
        · exact ImplE.cint
        refine ImplEs.cons ?_ ?_
        · exact ImplE.cint
        exact ImplEs.nil
      · exact ImplA.name (i := 3) rfl rfl
      refine ImplS.cons ?_ ?_
      · refine ImplS1.ite ?_ ?_ ?_
        · refine ImplT.bool ?_
          refine ImplTs.or ?_ ?_
          · refine ImplT.cmp ?_ ?_ ne_ok
            · refine ImplE.callFn G rfl (g_law_told G) r_law_told ?_ (k_law_told G hB)
              refine ImplEs.cons ?_ ?_
              · refine ImplE.item ?_ ?_
                · exact ImplE.name (i := 2) rfl (by decide +kernel)
                exact ImplE.name (i := 3) rfl (by decide +kernel)
              exact ImplEs.nil
            refine ImplE.bin ?_ ?_ mulL_ok
            · refine ImplE.list ?_
              refine ImplEs.cons ?_ ?_
              · exact ImplE.cnone
              exact ImplEs.nil
            exact ImplE.cint
          refine ImplTs.or ?_ ?_
          · refine ImplT.not ?_
            refine ImplT.value ?_
            refine ImplE.callFn G rfl (g_law_washed G) r_law_washed ?_ (k_law_washed G hB)
            refine ImplEs.cons ?_ ?_
            · refine ImplE.item ?_ ?_
              · exact ImplE.name (i := 2) rfl (by decide +kernel)
              exact ImplE.name (i := 3) rfl (by decide +kernel)
            exact ImplEs.nil
          exact ImplTs.orNil
        · refine ImplS.cons ?_ ?_
          · refine ImplS1.ret ?_
            exact ImplE.cbool
          exact ImplS.nil
        exact ImplS.nil
      refine ImplS.cons ?_ ?_
      · refine ImplS1.expr ?_
        refine ImplE.lmeth PySem.F.slot_list_append rfl ?_ ?_ append_ok
        · exact ImplE.name (i := 7) rfl (by decide +kernel)
        refine ImplEs.cons ?_ ?_
        · refine ImplE.meth G cls m_setSystemId ?_ ?_ (f_setSystemId G)
          · refine ImplE.item ?_ ?_
            · exact ImplE.name (i := 2) rfl (by decide +kernel)
            exact ImplE.name (i := 3) rfl (by decide +kernel)
          refine ImplEs.cons ?_ ?_
          · refine ImplE.item ?_ ?_
            · exact ImplE.name (i := 1) rfl (by decide +kernel)
            exact ImplE.name (i := 3) rfl (by decide +kernel)
          exact ImplEs.nil
        exact ImplEs.nil
      exact ImplS.nil
    refine ImplS.cons ?_ ?_
    · refine ImplS1.for (size := sizeL) (gt := goesT) ?_ ?_ ?_
      · refine ImplI.list ?_
        refine ImplE.bin ?_ ?_ add_ok
        · refine ImplE.list ?_
          refine ImplEs.cons ?_ ?_
          · exact ImplE.cint
          refine ImplEs.cons ?_ ?_
          · exact ImplE.cint
          refine ImplEs.cons ?_ ?_
          · exact ImplE.cint
          exact ImplEs.nil
        exact ImplE.name (i := 0) rfl (by decide +kernel)
      · exact ImplA.name (i := 4) rfl rfl
      refine ImplS.cons ?_ ?_
      · refine ImplS1.swapped (names := ["a", "b"]) ?_ rfl ?_
        · refine ImplE.tuple ?_
          refine ImplEs.cons ?_ ?_
          · refine ImplE.bin ?_ ?_ mod_ok
            · exact ImplE.name (i := 4) rfl (by decide +kernel)
            exact ImplE.cint
          refine ImplEs.cons ?_ ?_
          · refine ImplE.bin ?_ ?_ mod_ok
            · refine ImplE.bin ?_ ?_ div_ok
              · exact ImplE.name (i := 4) rfl (by decide +kernel)
              exact ImplE.cint
            exact ImplE.cint
          exact ImplEs.nil
        refine ImplN.cons (i := 13) rfl rfl ?_
        refine ImplN.cons (i := 12) rfl rfl ?_
        exact ImplN.nil
      refine ImplS.cons ?_ ?_
      · refine ImplS1.ite ?_ ?_ ?_
        · refine ImplT.cmp ?_ ?_ eq_ok
          · refine ImplE.bin ?_ ?_ mod_ok
            · refine ImplE.bin ?_ ?_ div_ok
              · exact ImplE.name (i := 4) rfl (by decide +kernel)
              exact ImplE.cint
            exact ImplE.cint
          exact ImplE.cint
        · refine ImplS.cons ?_ ?_
          · refine ImplS1.assign ?_ ?_
            · refine ImplE.list ?_
              exact ImplEs.nil
            refine ImplA.item ?_ ?_
            · exact ImplE.name (i := 6) rfl (by decide +kernel)
            exact ImplE.name (i := 12) rfl (by decide +kernel)
          refine ImplS.cons ?_ ?_
          · refine ImplS1.expr ?_
            refine ImplE.lmeth PySem.F.slot_list_append rfl ?_ ?_ append_ok
            · exact ImplE.name (i := 7) rfl (by decide +kernel)
            refine ImplEs.cons ?_ ?_
            · refine ImplE.meth G cls m_setByteStream ?_ ?_ (f_setByteStream G)
              · refine ImplE.item ?_ ?_
                · exact ImplE.name (i := 2) rfl (by decide +kernel)
                exact ImplE.name (i := 12) rfl (by decide +kernel)
              refine ImplEs.cons ?_ ?_
              · exact ImplE.cnone
              exact ImplEs.nil
            exact ImplEs.nil
          exact ImplS.nil
        refine ImplS.cons ?_ ?_
        · refine ImplS1.ite ?_ ?_ ?_
          · refine ImplT.cmp ?_ ?_ eq_ok
            · refine ImplE.item ?_ ?_
              · exact ImplE.name (i := 6) rfl (by decide +kernel)
              exact ImplE.name (i := 12) rfl (by decide +kernel)
            refine ImplE.list ?_
            exact ImplEs.nil
          · refine ImplS.cons ?_ ?_
            · refine ImplS1.assign ?_ ?_
              · refine ImplE.listMut ?_
                refine ImplEs.cons ?_ ?_
                · exact ImplE.name (i := 13) rfl (by decide +kernel)
                exact ImplEs.nil
              refine ImplA.item ?_ ?_
              · exact ImplE.name (i := 6) rfl (by decide +kernel)
              exact ImplE.name (i := 12) rfl (by decide +kernel)
            refine ImplS.cons ?_ ?_
            · refine ImplS1.expr ?_
              refine ImplE.lmeth PySem.F.slot_list_append rfl ?_ ?_ append_ok
              · exact ImplE.name (i := 7) rfl (by decide +kernel)
              refine ImplEs.cons ?_ ?_
              · refine ImplE.meth G cls m_setByteStream ?_ ?_ (f_setByteStream G)
                · refine ImplE.item ?_ ?_
                  · exact ImplE.name (i := 2) rfl (by decide +kernel)
                  exact ImplE.name (i := 12) rfl (by decide +kernel)
                refine ImplEs.cons ?_ ?_
                · refine ImplE.listMut ?_
                  refine ImplEs.cons ?_ ?_
                  · refine ImplE.item ?_ ?_
                    · exact ImplE.name (i := 2) rfl (by decide +kernel)
                    exact ImplE.name (i := 13) rfl (by decide +kernel)
                  exact ImplEs.nil
                exact ImplEs.nil
              exact ImplEs.nil
            exact ImplS.nil
          refine ImplS.cons ?_ ?_
          · refine ImplS1.expr ?_
            refine ImplE.lmeth PySem.F.slot_list_append rfl ?_ ?_ append_ok
            · refine ImplE.item ?_ ?_
              · exact ImplE.name (i := 6) rfl (by decide +kernel)
              exact ImplE.name (i := 12) rfl (by decide +kernel)
            refine ImplEs.cons ?_ ?_
            · exact ImplE.name (i := 13) rfl (by decide +kernel)
            exact ImplEs.nil
          refine ImplS.cons ?_ ?_
          · refine ImplS1.expr ?_
            refine ImplE.lmeth PySem.F.slot_list_append rfl ?_ ?_ append_ok
            · refine ImplE.meth G cls m_getByteStream ?_ ?_ (f_getByteStream G)
              · refine ImplE.item ?_ ?_
                · exact ImplE.name (i := 2) rfl (by decide +kernel)
                exact ImplE.name (i := 12) rfl (by decide +kernel)
              exact ImplEs.nil
            refine ImplEs.cons ?_ ?_
            · refine ImplE.item ?_ ?_
              · exact ImplE.name (i := 2) rfl (by decide +kernel)
              exact ImplE.name (i := 13) rfl (by decide +kernel)
            exact ImplEs.nil
          exact ImplS.nil
        exact ImplS.nil
      exact ImplS.nil
    refine ImplS.cons ?_ ?_
    · refine ImplS1.expr ?_
      refine ImplE.lmeth PySem.F.slot_list_extend rfl ?_ ?_ extend_ok
      · exact ImplE.name (i := 7) rfl (by decide +kernel)
      refine ImplEs.cons ?_ ?_
      · refine ImplE.callFn G rfl (g_law_search G) r_law_search ?_ (k_law_search G hB)
        refine ImplEs.cons ?_ ?_
        · exact ImplE.name (i := 2) rfl (by decide +kernel)
        exact ImplEs.nil
      exact ImplEs.nil
    refine ImplS.cons ?_ ?_
    · refine ImplS1.for (size := size2) (gt := goesU) ?_ ?_ ?_
      · refine ImplI.zip2 G rfl (g_zip G hB) ?_
        refine ImplEs.cons ?_ ?_
        · exact ImplE.name (i := 2) rfl (by decide +kernel)
        refine ImplEs.cons ?_ ?_
        · exact ImplE.name (i := 1) rfl (by decide +kernel)
        exact ImplEs.nil
      · refine ImplA.tuple ?_
        refine ImplAs.cons ?_ ?_
        · exact ImplA.name (i := 8) rfl rfl
        refine ImplAs.cons ?_ ?_
        · exact ImplA.name (i := 9) rfl rfl
        exact ImplAs.nil
      refine ImplS.cons ?_ ?_
      · refine ImplS1.ite ?_ ?_ ?_
        · refine ImplT.cmp ?_ ?_ ne_ok
          · refine ImplE.meth G cls m_getSystemId ?_ ?_ (f_getSystemId G)
            · exact ImplE.name (i := 8) rfl (by decide +kernel)
            exact ImplEs.nil
          exact ImplE.name (i := 9) rfl (by decide +kernel)
        · refine ImplS.cons ?_ ?_
          · refine ImplS1.ret ?_
            exact ImplE.cbool
          exact ImplS.nil
        exact ImplS.nil
      refine ImplS.cons ?_ ?_
      · refine ImplS1.expr ?_
        refine ImplE.lmeth PySem.F.slot_list_append rfl ?_ ?_ append_ok
        · exact ImplE.name (i := 7) rfl (by decide +kernel)
        refine ImplEs.cons ?_ ?_
        · refine ImplE.meth G cls m_setByteStream ?_ ?_ (f_setByteStream G)
          · exact ImplE.name (i := 8) rfl (by decide +kernel)
          refine ImplEs.cons ?_ ?_
          · refine ImplE.meth G cls m_getByteStream ?_ ?_ (f_getByteStream G)
            · exact ImplE.name (i := 8) rfl (by decide +kernel)
            exact ImplEs.nil
          exact ImplEs.nil
        exact ImplEs.nil
      refine ImplS.cons ?_ ?_
      · refine ImplS1.expr ?_
        refine ImplE.lmeth PySem.F.slot_list_append rfl ?_ ?_ append_ok
        · exact ImplE.name (i := 7) rfl (by decide +kernel)
        refine ImplEs.cons ?_ ?_
        · refine ImplE.meth G cls m_setSystemId ?_ ?_ (f_setSystemId G)
          · exact ImplE.name (i := 8) rfl (by decide +kernel)
          refine ImplEs.cons ?_ ?_
          · exact ImplE.name (i := 9) rfl (by decide +kernel)
          exact ImplEs.nil
        exact ImplEs.nil
      exact ImplS.nil
    refine ImplS.cons ?_ ?_
    · refine ImplS1.swapped (names := ["far", "order"]) ?_ rfl ?_
      · refine ImplE.tuple ?_
        refine ImplEs.cons ?_ ?_
        · refine ImplE.callFn G rfl (g_law_far G) r_law_far ?_ (k_law_far G hB)
          refine ImplEs.cons ?_ ?_
          · exact ImplE.name (i := 6) rfl (by decide +kernel)
          exact ImplEs.nil
        refine ImplEs.cons ?_ ?_
        · refine ImplE.listMut ?_
          exact ImplEs.nil
        exact ImplEs.nil
      refine ImplN.cons (i := 11) rfl rfl ?_
      refine ImplN.cons (i := 10) rfl rfl ?_
      exact ImplN.nil
    refine ImplS.cons ?_ ?_
    · refine ImplS1.for (size := sizeL) (gt := goesT) ?_ ?_ ?_
      · refine ImplI.range G rfl (g_range G hB) ?_
        refine ImplEs.cons ?_ ?_
        · exact ImplE.cint
        exact ImplEs.nil
      · exact ImplA.name (i := 3) rfl rfl
      refine ImplS.cons ?_ ?_
      · refine ImplS1.assign ?_ ?_
        · refine ImplE.tuple ?_
          refine ImplEs.cons ?_ ?_
          · refine ImplE.item ?_ ?_
            · exact ImplE.name (i := 2) rfl (by decide +kernel)
            exact ImplE.name (i := 3) rfl (by decide +kernel)
          refine ImplEs.cons ?_ ?_
          · refine ImplE.meth G cls m_getByteStream ?_ ?_ (f_getByteStream G)
            · refine ImplE.item ?_ ?_
              · exact ImplE.name (i := 2) rfl (by decide +kernel)
              exact ImplE.name (i := 3) rfl (by decide +kernel)
            exact ImplEs.nil
          exact ImplEs.nil
        refine ImplA.tuple ?_
        refine ImplAs.cons ?_ ?_
        · exact ImplA.name (i := 8) rfl rfl
        refine ImplAs.cons ?_ ?_
        · exact ImplA.name (i := 14) rfl rfl
        exact ImplAs.nil
      refine ImplS.cons ?_ ?_
      · refine ImplS1.ite ?_ ?_ ?_
        · refine ImplT.bool ?_
          refine ImplTs.or ?_ ?_
          · refine ImplT.cmp ?_ ?_ ne_ok
            · refine ImplE.meth G cls m_getSystemId ?_ ?_ (f_getSystemId G)
              · exact ImplE.name (i := 8) rfl (by decide +kernel)
              exact ImplEs.nil
            refine ImplE.item ?_ ?_
            · exact ImplE.name (i := 1) rfl (by decide +kernel)
            exact ImplE.name (i := 3) rfl (by decide +kernel)
          refine ImplTs.or ?_ ?_
          · refine ImplT.cmp ?_ ?_ ne_ok
            · refine ImplE.meth G cls m_getPublicId ?_ ?_ (f_getPublicId G)
              · exact ImplE.name (i := 8) rfl (by decide +kernel)
              exact ImplEs.nil
            refine ImplE.item ?_ ?_
            · exact ImplE.name (i := 10) rfl (by decide +kernel)
            exact ImplE.name (i := 3) rfl (by decide +kernel)
          exact ImplTs.orNil
        · refine ImplS.cons ?_ ?_
          · refine ImplS1.ret ?_
            exact ImplE.cbool
          exact ImplS.nil
        exact ImplS.nil
      refine ImplS.cons ?_ ?_
      · refine ImplS1.ite ?_ ?_ ?_
        · refine ImplT.cmp ?_ ?_ ne_ok
          · refine ImplE.cmp ?_ ?_ is_ok
            · exact ImplE.name (i := 14) rfl (by decide +kernel)
            exact ImplE.cnone
          refine ImplE.cmp ?_ ?_ eq_ok
          · refine ImplE.item ?_ ?_
            · exact ImplE.name (i := 6) rfl (by decide +kernel)
            exact ImplE.name (i := 3) rfl (by decide +kernel)
          refine ImplE.list ?_
          exact ImplEs.nil
        · refine ImplS.cons ?_ ?_
          · refine ImplS1.ret ?_
            exact ImplE.cbool
          exact ImplS.nil
        exact ImplS.nil
      refine ImplS.cons ?_ ?_
      · refine ImplS1.ite ?_ ?_ ?_
        · refine ImplT.bool ?_
          refine ImplTs.and ?_ ?_
          · refine ImplT.cmp ?_ ?_ isNot_ok
            · exact ImplE.name (i := 14) rfl (by decide +kernel)
            exact ImplE.cnone
          refine ImplTs.and ?_ ?_
          · refine ImplT.cmp ?_ ?_ ne_ok
            · refine ImplE.frz ?_
              refine ImplE.compN (tv := ["to", "j"]) (cp := ["sources"]) (caps := [2]) (size := sizeA) (gt := goesT) (Comp2Is.of rfl (by decide +kernel)) ?_ ?_ ?_ ?_ (turn_20 _ _ _ _ _ _ _ _ _)
              · refine ImplI.any ?_
                exact ImplE.name (i := 14) rfl (by decide +kernel)
              · exact ImplA.name (i := 0) rfl rfl
              · exact ImplC.nil
              refine ImplM.two (size := sizeL) (gt := goesT) ?_ ?_ ?_ ?_
              · refine ImplI.range G rfl (g_range G hB) ?_
                refine ImplEs.cons ?_ ?_
                · exact ImplE.cint
                exact ImplEs.nil
              · exact ImplA.name (i := 1) rfl rfl
              · refine ImplC.one ?_
                refine ImplT.cmp ?_ ?_ is_ok
                · exact ImplE.name (i := 0) rfl (by decide +kernel)
                refine ImplE.item ?_ ?_
                · exact ImplE.name (i := 2) rfl (by decide +kernel)
                exact ImplE.name (i := 1) rfl (by decide +kernel)
              exact ImplE.name (i := 1) rfl (by decide +kernel)
            refine ImplE.item ?_ ?_
            · exact ImplE.name (i := 6) rfl (by decide +kernel)
            exact ImplE.name (i := 3) rfl (by decide +kernel)
          exact ImplTs.andNil
        · refine ImplS.cons ?_ ?_
          · refine ImplS1.ret ?_
            exact ImplE.cbool
          exact ImplS.nil
        exact ImplS.nil
      refine ImplS.cons ?_ ?_
      · refine ImplS1.ite ?_ ?_ ?_
        · refine ImplT.bool ?_
          refine ImplTs.and ?_ ?_
          · refine ImplT.cmp ?_ ?_ is_ok
            · refine ImplE.item ?_ ?_
              · exact ImplE.name (i := 10) rfl (by decide +kernel)
              exact ImplE.name (i := 3) rfl (by decide +kernel)
            exact ImplE.cnone
          refine ImplTs.and ?_ ?_
          · refine ImplT.cmp ?_ ?_ ne_ok
            · refine ImplE.list ?_
              refine ImplEs.cons ?_ ?_
              · refine ImplE.meth G cls m_getEncoding ?_ ?_ (f_getEncoding G)
                · exact ImplE.name (i := 8) rfl (by decide +kernel)
                exact ImplEs.nil
              refine ImplEs.cons ?_ ?_
              · refine ImplE.meth G cls m_getCharacterStream ?_ ?_ (f_getCharacterStream G)
                · exact ImplE.name (i := 8) rfl (by decide +kernel)
                exact ImplEs.nil
              exact ImplEs.nil
            refine ImplE.list ?_
            refine ImplEs.cons ?_ ?_
            · exact ImplE.cnone
            refine ImplEs.cons ?_ ?_
            · exact ImplE.cnone
            exact ImplEs.nil
          exact ImplTs.andNil
        · refine ImplS.cons ?_ ?_
          · refine ImplS1.ret ?_
            exact ImplE.cbool
          exact ImplS.nil
        exact ImplS.nil
      refine ImplS.cons ?_ ?_
      · refine ImplS1.ite ?_ ?_ ?_
        · refine ImplT.cmp ?_ ?_ isNot_ok
          · refine ImplE.item ?_ ?_
            · exact ImplE.name (i := 10) rfl (by decide +kernel)
            exact ImplE.name (i := 3) rfl (by decide +kernel)
          exact ImplE.cnone
        · refine ImplS.cons ?_ ?_
          · refine ImplS1.expr ?_
            refine ImplE.lmeth PySem.F.slot_list_append rfl ?_ ?_ append_ok
            · exact ImplE.name (i := 11) rfl (by decide +kernel)
            refine ImplEs.cons ?_ ?_
            · refine ImplE.list ?_
              refine ImplEs.cons ?_ ?_
              · refine ImplE.meth G cls m_getEncoding ?_ ?_ (f_getEncoding G)
                · exact ImplE.name (i := 8) rfl (by decide +kernel)
                exact ImplEs.nil
              refine ImplEs.cons ?_ ?_
              · refine ImplE.item ?_ ?_
                · exact ImplE.name (i := 10) rfl (by decide +kernel)
                exact ImplE.name (i := 3) rfl (by decide +kernel)
              refine ImplEs.cons ?_ ?_
              · refine ImplE.meth G cls m_getEncoding ?_ ?_ (f_getEncoding G)
                · exact ImplE.name (i := 8) rfl (by decide +kernel)
                exact ImplEs.nil
              exact ImplEs.nil
            exact ImplEs.nil
          refine ImplS.cons ?_ ?_
          · refine ImplS1.frz ?_
            refine ImplS1.assignCompN (i := 15) (tv := ["j"]) (cp := ["sources", "source"]) (caps := [2, 8]) (size := sizeL) (gt := goesT) (Comp2Is.of rfl (by decide +kernel)) ?_ ?_ ?_ ?_ (turn_1 _ _ _ _ _ _) rfl rfl
            · refine ImplI.range G rfl (g_range G hB) ?_
              refine ImplEs.cons ?_ ?_
              · exact ImplE.cint
              exact ImplEs.nil
            · exact ImplA.name (i := 0) rfl rfl
            · refine ImplC.one ?_
              refine ImplT.cmp ?_ ?_ is_ok
              · refine ImplE.meth G cls m_getCharacterStream ?_ ?_ (f_getCharacterStream G)
                · exact ImplE.name (i := 2) rfl (by decide +kernel)
                exact ImplEs.nil
              refine ImplE.item ?_ ?_
              · exact ImplE.name (i := 1) rfl (by decide +kernel)
              exact ImplE.name (i := 0) rfl (by decide +kernel)
            refine ImplM.one ?_
            exact ImplE.name (i := 0) rfl (by decide +kernel)
          refine ImplS.cons ?_ ?_
          · refine ImplS1.ite ?_ ?_ ?_
            · refine ImplT.bool ?_
              refine ImplTs.and ?_ ?_
              · refine ImplT.cmp ?_ ?_ gt_ok
                · exact ImplE.name (i := 3) rfl (by decide +kernel)
                exact ImplE.cint
              refine ImplTs.and ?_ ?_
              · refine ImplT.bool ?_
                refine ImplTs.or ?_ ?_
                · refine ImplT.cmp ?_ ?_ ne_ok
                  · refine ImplE.callB G rfl (g_len G hB) ?_ len_ok
                    refine ImplEs.cons ?_ ?_
                    · exact ImplE.name (i := 15) rfl (by decide +kernel)
                    exact ImplEs.nil
                  exact ImplE.cint
                refine ImplTs.or ?_ ?_
                · refine ImplT.cmp ?_ ?_ ne_ok
                  · refine ImplE.item ?_ ?_
                    · exact ImplE.name (i := 10) rfl (by decide +kernel)
                    refine ImplE.item ?_ ?_
                    · exact ImplE.name (i := 15) rfl (by decide +kernel)
                    exact ImplE.cint
                  refine ImplE.bin ?_ ?_ sub_ok
                  · refine ImplE.item ?_ ?_
                    · exact ImplE.name (i := 10) rfl (by decide +kernel)
                    exact ImplE.name (i := 3) rfl (by decide +kernel)
                  exact ImplE.cint
                refine ImplTs.or ?_ ?_
                · refine ImplT.cmp ?_ ?_ notIn_ok
                  · exact ImplE.name (i := 3) rfl (by decide +kernel)
                  refine ImplE.item ?_ ?_
                  · exact ImplE.name (i := 6) rfl (by decide +kernel)
                  refine ImplE.item ?_ ?_
                  · exact ImplE.name (i := 15) rfl (by decide +kernel)
                  exact ImplE.cint
                exact ImplTs.orNil
              exact ImplTs.andNil
            · refine ImplS.cons ?_ ?_
              · refine ImplS1.ret ?_
                exact ImplE.cbool
              exact ImplS.nil
            exact ImplS.nil
          exact ImplS.nil
        exact ImplS.nil
      exact ImplS.nil
    refine ImplS.cons ?_ ?_
    · refine ImplS1.assign ?_ ?_
      · refine ImplE.callB G rfl (g_sorted G hB) ?_ sorted_ok
        refine ImplEs.cons ?_ ?_
        · refine ImplE.frz ?_
          refine ImplE.compN (tv := ["one"]) (cp := []) (caps := []) (size := sizeA) (gt := goesT) (Comp2Is.of rfl (by decide +kernel)) ?_ ?_ ?_ ?_ (turn_1 _ _ _ _ _ _)
          · refine ImplI.any ?_
            exact ImplE.name (i := 10) rfl (by decide +kernel)
          · exact ImplA.name (i := 0) rfl rfl
          · refine ImplC.one ?_
            refine ImplT.cmp ?_ ?_ isNot_ok
            · exact ImplE.name (i := 0) rfl (by decide +kernel)
            exact ImplE.cnone
          refine ImplM.one ?_
          exact ImplE.name (i := 0) rfl (by decide +kernel)
        exact ImplEs.nil
      exact ImplA.name (i := 5) rfl rfl
    refine ImplS.cons ?_ ?_
    · refine ImplS1.ite ?_ ?_ ?_
      · refine ImplT.cmp ?_ ?_ ne_ok
        · refine ImplE.callB G rfl (g_sorted G hB) ?_ sorted_ok
          refine ImplEs.cons ?_ ?_
          · exact ImplE.name (i := 11) rfl (by decide +kernel)
          exact ImplEs.nil
        refine ImplE.frz ?_
        refine ImplE.compN (tv := ["turn"]) (cp := ["dues"]) (caps := [5]) (size := sizeL) (gt := goesT) (Comp2Is.of rfl (by decide +kernel)) ?_ ?_ ?_ ?_ (turn_1 _ _ _ _ _ _)
        · refine ImplI.range G rfl (g_range G hB) ?_
          refine ImplEs.cons ?_ ?_
          · refine ImplE.callB G rfl (g_len G hB) ?_ len_ok
            refine ImplEs.cons ?_ ?_
            · exact ImplE.name (i := 5) rfl (by decide +kernel)
            exact ImplEs.nil
          exact ImplEs.nil
        · exact ImplA.name (i := 0) rfl rfl
        · exact ImplC.nil
        refine ImplM.one ?_
        refine ImplE.list ?_
        refine ImplEs.cons ?_ ?_
        · exact ImplE.name (i := 0) rfl (by decide +kernel)
        refine ImplEs.cons ?_ ?_
        · refine ImplE.item ?_ ?_
          · exact ImplE.name (i := 1) rfl (by decide +kernel)
          exact ImplE.name (i := 0) rfl (by decide +kernel)
        refine ImplEs.cons ?_ ?_
        · exact ImplE.name (i := 0) rfl (by decide +kernel)
        exact ImplEs.nil
      · refine ImplS.cons ?_ ?_
        · refine ImplS1.ret ?_
          exact ImplE.cbool
        exact ImplS.nil
      exact ImplS.nil
    refine ImplS.cons ?_ ?_
    · refine ImplS1.ret ?_
      refine ImplE.boolop ?_
      refine ImplBs.and ?_ ?_
      · refine ImplE.cmp ?_ ?_ is_ok
        · refine ImplE.meth G cls m_getCharacterStream ?_ ?_ (f_getCharacterStream G)
          · refine ImplE.item ?_ ?_
            · exact ImplE.name (i := 2) rfl (by decide +kernel)
            exact ImplE.cint
          exact ImplEs.nil
        exact ImplE.cnone
      refine ImplBs.one ?_
      refine ImplE.cmp ?_ ?_ eq_ok
      · exact ImplE.name (i := 7) rfl (by decide +kernel)
      refine ImplE.bin ?_ ?_ mulL_ok
      · refine ImplE.list ?_
        refine ImplEs.cons ?_ ?_
        · exact ImplE.cnone
        exact ImplEs.nil
      refine ImplE.callB G rfl (g_len G hB) ?_ len_ok
      refine ImplEs.cons ?_ ?_
      · exact ImplE.name (i := 7) rfl (by decide +kernel)
      exact ImplEs.nil
    exact ImplS.nil

  refine ⟨.inl ⟨.bool true, .bool true, [], rfl, raisesW_false ?_, .bool true, ?_, fun _ => ⟨List.nodup_nil, fun _ h => by cases h⟩⟩, k1, k3, k2.trans ‹_›⟩
  · wrow_none_raised
  · first | wrow_post | kc_post)
