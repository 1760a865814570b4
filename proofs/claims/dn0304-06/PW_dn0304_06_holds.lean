import PyProof.Rows.All
import Wide.All
import OpenK.AllK
import Wide.FinOn
import PySem.Challenge.RW_dn0304_06
open PySem PySem.W PyProof.Rows
set_option Elab.async false
set_option maxRecDepth 100000
set_option linter.unusedVariables false
namespace Mine


inductive AV where
  | unb
  | none
  | bool (b : Bool)
  | int (i : Int)
  | str (s : Str)
  | bytes (b : Array UInt8)
  | val (v : Value)
  | ins (k : Nat)
  | lob (k : Nat)
  | lst (xs : List AV)
  | tup (xs : List AV)
  | lsb (xs : List AV)
inductive Fd where
  | sys | pub | enc | byt | chr
structure Ins where
  sys : AV
  pub : AV
  enc : AV
  byt : AV
  chr : AV
noncomputable def Ins.get (i : Ins) : Fd → AV
  | .sys => i.sys
  | .pub => i.pub
  | .enc => i.enc
  | .byt => i.byt
  | .chr => i.chr
noncomputable def Ins.put (i : Ins) (v : AV) : Fd → Ins
  | .sys => { i with sys := v }
  | .pub => { i with pub := v }
  | .enc => { i with enc := v }
  | .byt => { i with byt := v }
  | .chr => { i with chr := v }
abbrev LH := List (List (Nat × List AV))
structure AS where
  loc : List AV
  ins : List Ins
  lst : LH
  nl : Nat
noncomputable def lookL (k : Nat) : List (Nat × List AV) → Option (List AV)
  | [] => .none
  | (j, xs) :: r => if k = j then some xs else lookL k r
noncomputable def getL1 (k : Nat) : LH → Option (List AV)
  | [] => .none
  | g :: r => match lookL k g with | some xs => some xs | .none => getL1 k r
noncomputable def putSeg (k : Nat) (ys : List AV) : List (Nat × List AV) → List (Nat × List AV)
  | [] => []
  | (j, xs) :: r => if k = j then (j, ys) :: r else (j, xs) :: putSeg k ys r
noncomputable def putL1 (k : Nat) (ys : List AV) : LH → LH
  | [] => []
  | g :: r => match lookL k g with | some _ => putSeg k ys g :: r | .none => g :: putL1 k ys r
noncomputable def pushL1 (k : Nat) (xs : List AV) : LH → LH
  | [] => [[(k, xs)]]
  | g :: r => ((k, xs) :: g) :: r

inductive Role where
  | oth
  | ins (k : Nat)
  | dct (k : Nat)
  | lob (k : Nat)
  | frz (o : Obj)
structure Wd where
  role : Addr → Role
  ia : Nat → Addr
  da : Nat → Addr
  la : Nat → Addr
  ni : Nat
  nl : Nat
noncomputable def Role.mut : Role → Prop
  | .ins _ | .dct _ | .lob _ => True
  | _ => False
noncomputable def Wd.Mut (W : Wd) (a : Addr) : Prop := (W.role a).mut
abbrev tupOf (its : Array Value) (n : Nat) : Obj := { cls := .type "tuple", data := .seq its n }
mutual
inductive VR (W : Wd) : Value → AV → Prop
  | none : VR W .none .none
  | bool (b : Bool) : VR W (.bool b) (.bool b)
  | int (i : Int) (t : Tok) : VR W (.int i t) (.int i)
  | str (x : Str) (t : Tok) : VR W (.str x t) (.str x)
  | bytes (x : Array UInt8) (t : Tok) : VR W (.bytes x t) (.bytes x)
  | val (v : Value) (h : handedIn v = true) : VR W v (.val v)
  | ins (k : Nat) : k < W.ni → VR W (.ref (W.ia k)) (.ins k)
  | lob (k : Nat) : k < W.nl → VR W (.ref (W.la k)) (.lob k)
  | lst {a : Addr} {vs : List Value} {n : Nat} {xs : List AV} : W.role a = .frz (listOf vs.toArray n) → VRs W vs xs → VR W (.ref a) (.lst xs)
  | tup {a : Addr} {o : Obj} {vs : List Value} {n : Nat} {xs : List AV} : W.role a = .frz o → o.cls = .type "tuple" → o.data = .seq vs.toArray n → VRs W vs xs → VR W (.ref a) (.tup xs)
  | lsb {a : Addr} {o : Obj} {vs : List Value} {n : Nat} {xs : List AV} : W.role a = .frz o → o.cls = .type "list" → o.data = .seq vs.toArray n → VRs W vs xs → VR W (.ref a) (.lsb xs)
inductive VRs (W : Wd) : List Value → List AV → Prop
  | nil : VRs W [] []
  | cons {v : Value} {vs : List Value} {x : AV} {xs : List AV} : VR W v x → VRs W vs xs → VRs W (v :: vs) (x :: xs)
end

theorem VR.handed {W : Wd} {v : Value} {x : AV} (h : VR W v x) : handedIn v = true := by
  cases h <;> first | rfl | assumption
theorem VR.inv_none {W : Wd} {v : Value} (h : VR W v .none) : v = .none := by cases h; rfl
theorem VR.inv_bool {W : Wd} {v : Value} {b : Bool} (h : VR W v (.bool b)) : v = .bool b := by cases h; rfl
theorem VR.inv_int {W : Wd} {v : Value} {i : Int} (h : VR W v (.int i)) : ∃ t, v = .int i t := by cases h; exact ⟨_, rfl⟩
theorem VR.inv_str {W : Wd} {v : Value} {i : Str} (h : VR W v (.str i)) : ∃ t, v = .str i t := by cases h; exact ⟨_, rfl⟩
theorem VR.inv_bytes {W : Wd} {v : Value} {i : Array UInt8} (h : VR W v (.bytes i)) : ∃ t, v = .bytes i t := by cases h; exact ⟨_, rfl⟩
theorem VR.inv_ins {W : Wd} {v : Value} {k : Nat} (h : VR W v (.ins k)) : v = .ref (W.ia k) ∧ k < W.ni := by cases h; exact ⟨rfl, by assumption⟩
theorem VRs.length {W : Wd} {vs : List Value} {xs : List AV} (h : VRs W vs xs) : vs.length = xs.length := by
  induction vs generalizing xs with
  | nil => cases h; rfl
  | cons v vs ih => cases h with | cons _ r => rw [List.length_cons, List.length_cons, ih r]
theorem VRs.append {W : Wd} {vs ws : List Value} {xs ys : List AV} (h : VRs W vs xs) (k : VRs W ws ys) : VRs W (vs ++ ws) (xs ++ ys) := by
  induction vs generalizing xs with
  | nil => cases h; exact k
  | cons v vs ih => cases h with | cons a r => exact .cons a (ih r)
theorem VRs.get {W : Wd} {vs : List Value} {xs : List AV} (h : VRs W vs xs) {i : Nat} {x : AV} (e : xs[i]? = some x) : ∃ v, vs[i]? = some v ∧ VR W v x := by
  induction vs generalizing xs i with
  | nil => cases h; simp at e
  | cons v vs ih =>
    cases h with
    | cons a r =>
      cases i with
      | zero => simp at e; subst e; exact ⟨v, rfl, a⟩
      | succ i => simp at e; exact ih r e
theorem VRs.getv {W : Wd} {vs : List Value} {xs : List AV} (h : VRs W vs xs) {i : Nat} {v : Value} (e : vs[i]? = some v) : ∃ x, xs[i]? = some x ∧ VR W v x := by
  induction vs generalizing xs i with
  | nil => simp at e
  | cons w vs ih =>
    cases h with
    | cons a r =>
      cases i with
      | zero => simp at e; subst e; exact ⟨_, rfl, a⟩
      | succ i => simp at e; exact ih r e
theorem VRs.reverse {W : Wd} : ∀ {vs : List Value} {xs : List AV}, VRs W vs xs → VRs W vs.reverse xs.reverse
  | _, _, .nil => .nil
  | _, _, .cons a r => by rw [List.reverse_cons, List.reverse_cons]; exact (VRs.reverse r).append (.cons a .nil)
theorem VRs.one {W : Wd} {v : Value} {x : AV} (hv : VR W v x) : VRs W [v] [x] := .cons hv .nil
structure Le (W W' : Wd) : Prop where
  ni : W.ni ≤ W'.ni
  nl : W.nl ≤ W'.nl
  ia : ∀ k, k < W.ni → W'.ia k = W.ia k
  da : ∀ k, k < W.ni → W'.da k = W.da k
  la : ∀ k, k < W.nl → W'.la k = W.la k
  frz : ∀ a o, W.role a = .frz o → W'.role a = .frz o
theorem Le.refl (W : Wd) : Le W W := ⟨Nat.le_refl _, Nat.le_refl _, fun _ _ => rfl, fun _ _ => rfl, fun _ _ => rfl, fun _ _ h => h⟩
theorem Le.trans {W W' W'' : Wd} (x : Le W W') (y : Le W' W'') : Le W W'' where
  ni := Nat.le_trans x.ni y.ni
  nl := Nat.le_trans x.nl y.nl
  ia := fun k h => (y.ia k (Nat.lt_of_lt_of_le h x.ni)).trans (x.ia k h)
  da := fun k h => (y.da k (Nat.lt_of_lt_of_le h x.ni)).trans (x.da k h)
  la := fun k h => (y.la k (Nat.lt_of_lt_of_le h x.nl)).trans (x.la k h)
  frz := fun a o h => y.frz a o (x.frz a o h)
mutual
theorem VR.mono {W W' : Wd} (L : Le W W') : ∀ {v : Value} {x : AV}, VR W v x → VR W' v x
  | _, _, .none => .none
  | _, _, .bool b => .bool b
  | _, _, .int i t => .int i t
  | _, _, .str x t => .str x t
  | _, _, .bytes x t => .bytes x t
  | _, _, .val v h => .val v h
  | _, _, .ins k h => by rw [← L.ia k h]; exact .ins k (Nat.lt_of_lt_of_le h L.ni)
  | _, _, .lob k h => by rw [← L.la k h]; exact .lob k (Nat.lt_of_lt_of_le h L.nl)
  | _, _, .lst h r => .lst (L.frz _ _ h) (VRs.mono L r)
  | _, _, .tup h h1 h2 r => .tup (L.frz _ _ h) h1 h2 (VRs.mono L r)
  | _, _, .lsb h h1 h2 r => .lsb (L.frz _ _ h) h1 h2 (VRs.mono L r)
theorem VRs.mono {W W' : Wd} (L : Le W W') : ∀ {vs : List Value} {xs : List AV}, VRs W vs xs → VRs W' vs xs
  | _, _, .nil => .nil
  | _, _, .cons a r => .cons (VR.mono L a) (VRs.mono L r)
end

noncomputable def fkey : Fd → Str
  | .sys => Str.ofString "_InputSource__system_id"
  | .pub => Str.ofString "_InputSource__public_id"
  | .enc => Str.ofString "_InputSource__encoding"
  | .byt => Str.ofString "_InputSource__bytefile"
  | .chr => Str.ofString "_InputSource__charfile"
inductive FieldsAre (W : Wd) : List DictEntry → Ins → Prop
  | mk {h1 h2 h3 h4 h5 : Int} {t1 t2 t3 t4 t5 : Tok} {v1 v2 v3 v4 v5 : Value} {i : Ins} :
      VR W v1 i.sys → VR W v2 i.pub → VR W v3 i.enc → VR W v4 i.byt → VR W v5 i.chr →
      FieldsAre W [⟨h1, .str (fkey .sys) t1, v1⟩, ⟨h2, .str (fkey .pub) t2, v2⟩, ⟨h3, .str (fkey .enc) t3, v3⟩, ⟨h4, .str (fkey .byt) t4, v4⟩, ⟨h5, .str (fkey .chr) t5, v5⟩] i
theorem FieldsAre.mono {W W' : Wd} (L : Le W W') {es : List DictEntry} {i : Ins} (h : FieldsAre W es i) : FieldsAre W' es i := by
  cases h with
  | mk a b c d e => exact .mk (a.mono L) (b.mono L) (c.mono L) (d.mono L) (e.mono L)
theorem fkey_is (f g : Fd) : (fkey f == fkey g) = decide (f.ctorIdx = g.ctorIdx) := by
  cases f <;> cases g <;> decide +kernel
theorem FieldsAre.get {W : Wd} {es : List DictEntry} {i : Ins} (h : FieldsAre W es i) (f : Fd) : ∃ v, PySem.W.getL (fkey f) es = some (some v) ∧ VR W v (i.get f) := by
  cases h with
  | mk a b c d e =>
    cases f <;> simp only [PySem.W.getL, List.find?, Value.isStr, fkey_is]
    · exact ⟨_, rfl, a⟩
    · exact ⟨_, rfl, b⟩
    · exact ⟨_, rfl, c⟩
    · exact ⟨_, rfl, d⟩
    · exact ⟨_, rfl, e⟩
theorem FieldsAre.put {W : Wd} {es : List DictEntry} {i : Ins} (h : FieldsAre W es i) (f : Fd) {v : Value} {x : AV} (hv : VR W v x) (hsh : Int) (key : Value) :
    FieldsAre W (PySem.W.putL (fkey f) hsh key v es) (i.put x f) := by
  cases h with
  | mk a b c d e =>
    cases f <;> simp only [PySem.W.putL, Value.isStr, fkey_is]
    · exact .mk hv b c d e
    · exact .mk a hv c d e
    · exact .mk a b hv d e
    · exact .mk a b c hv e
    · exact .mk a b c d hv
theorem FieldsAre.len {W : Wd} {es : List DictEntry} {i : Ins} (h : FieldsAre W es i) : es.length = 5 := by cases h; rfl
end Mine

namespace Mine

structure Cx where
  prog : Program
  w : World
  K : Frag
  C : Addr
  h0 : Heap
  mg : Str → Option Value
  mb : Str → Option Value
structure HR (c : Cx) (W : Wd) (st : AS) (h : Heap) : Prop where
  keep : ∀ a o, c.h0.get? a = some o → h.get? a = some o
  mutA : ∀ a, W.Mut a → c.h0.get? a = .none
  lt : ∀ a, W.role a = .oth ∨ ∃ o, h.get? a = some o
  frz : ∀ a o, W.role a = .frz o → h.get? a = some o
  ni : W.ni = st.ins.length
  nl : W.nl = st.nl
  iaR : ∀ k, k < W.ni → W.role (W.ia k) = .ins k ∧ W.role (W.da k) = .dct k
  insA : ∀ k i, st.ins[k]? = some i → ∃ es n, h.get? (W.ia k) = some (instObj c.C (W.da k)) ∧ h.get? (W.da k) = some (dictOf es n) ∧ FieldsAre W es i
  lstA : ∀ g ∈ st.lst, ∀ p ∈ g, p.1 < W.nl ∧ W.role (W.la p.1) = .lob p.1 ∧ ∃ vs n, h.get? (W.la p.1) = some (listOf vs.toArray n) ∧ VRs W vs p.2
  nodup : (st.lst.flatten.map (·.1)).Nodup
structure Sx where
  sc : Scope
  vars : List Str
  wr : List Str
structure Pl where
  A : Around
  sx : Sx
  env : Env
  wc : List Addr
noncomputable def Pl.Own (p : Pl) (a : Addr) : Prop := a = p.env.locals ∨ a ∈ p.wc
structure FrV (c : Cx) (p : Pl) (W : Wd) (loc : List AV) (h : Heap) : Prop where
  ns : ∃ ml, h.Ns p.env.locals ml ∧ ∀ (i : Nat) (x : Str) (v : AV), p.sx.vars[i]? = some x → loc[i]? = some v → v ≠ .unb → p.env.kindOf x = some .local → ∃ val, ml x = some val ∧ VR W val v
  cl : ∀ (i : Nat) (x : Str) (v : AV), p.sx.vars[i]? = some x → loc[i]? = some v → v ≠ .unb → p.env.kindOf x = some .cell → ∃ val a, p.env.cells.lookup x = some a ∧ h.IsCell a (some val) ∧ VR W val v
  cells : ∀ x a, p.env.cells.lookup x = some a → ∃ v, h.IsCell a v
  hasCell : ∀ x, x ∈ p.sx.vars → p.env.kindOf x = some .cell → ∃ a, p.env.cells.lookup x = some a ∧ (x ∈ p.sx.wr → a ∈ p.wc)
  kinds : ∀ x, x ∈ p.sx.vars → p.env.kindOf x = some .local ∨ p.env.kindOf x = some .cell
  apart : p.env.cells.Pairwise fun x y => x.2 ≠ y.2
  wcIn : ∀ a ∈ p.wc, ∃ x, p.env.cells.lookup x = some a
  roleL : W.role p.env.locals = .oth
  roleC : ∀ x a, p.env.cells.lookup x = some a → W.role a = .oth ∧ a ≠ p.env.locals ∧ c.h0.get? a = .none
  lo : c.h0.get? p.env.locals = .none
  scope : p.env.scope = p.sx.sc
  kind : p.sx.sc.kind = .function
  globals : p.env.globals = mainGlobals
  builtins : p.env.builtins = builtinsNs
  nodup : p.sx.vars.Nodup
structure Inv (c : Cx) (p : Pl) (W : Wd) (st : AS) (s : Shared) : Prop where
  hr : HR c W st s.heap
  fr : FrV c p W st.loc s.heap
structure Ext (own : Addr → Prop) (W : Wd) (s : Shared) (W' : Wd) (s' : Shared) : Prop where
  le : Le W W'
  alive : ∀ a o, s.heap.get? a = some o → ∃ o', s'.heap.get? a = some o'
  oth : ∀ a o, s.heap.get? a = some o → W.role a = .oth → W'.role a = .oth
  kept : ∀ a o, ¬ W.Mut a → ¬ own a → s.heap.get? a = some o → s'.heap.get? a = some o
  gens : s'.gens = s.gens
  os : s'.os = s.os
theorem Role.cases_mut (r : Role) : r.mut ∨ r = .oth ∨ ∃ o, r = .frz o := by
  cases r <;> simp [Role.mut]
theorem Ext.unmut {own : Addr → Prop} {W W' : Wd} {s s' : Shared} (x : Ext own W s W' s') {a : Addr} {o : Obj} (ha : s.heap.get? a = some o) (hm : ¬ W.Mut a) : ¬ W'.Mut a := by
  rcases Role.cases_mut (W.role a) with h | h | ⟨o, h⟩
  · exact absurd h hm
  · unfold Wd.Mut; rw [x.oth a _ ha h]; simp [Role.mut]
  · unfold Wd.Mut; rw [x.le.frz a o h]; simp [Role.mut]
theorem Ext.refl (own : Addr → Prop) (W : Wd) (s : Shared) : Ext own W s W s :=
  ⟨Le.refl W, fun _ o h => ⟨o, h⟩, fun _ _ _ h => h, fun _ _ _ _ h => h, rfl, rfl⟩
theorem Ext.trans {own : Addr → Prop} {W W' W'' : Wd} {s s' s'' : Shared} (x : Ext own W s W' s') (y : Ext own W' s' W'' s'') : Ext own W s W'' s'' where
  le := x.le.trans y.le
  alive := fun a o h => let ⟨o1, h1⟩ := x.alive a o h; y.alive a o1 h1
  oth := fun a o h e => let ⟨o1, h1⟩ := x.alive a o h; y.oth a o1 h1 (x.oth a o h e)
  kept := fun a o hm ho e => y.kept a o (x.unmut e hm) ho (x.kept a o hm ho e)
  gens := y.gens.trans x.gens
  os := y.os.trans x.os
theorem Ext.weaken {own own' : Addr → Prop} {W W' : Wd} {s s' : Shared} (x : Ext own W s W' s') (h : ∀ a, own a → own' a) : Ext own' W s W' s' :=
  ⟨x.le, x.alive, x.oth, fun a o hm ho e => x.kept a o hm (fun q => ho (h a q)) e, x.gens, x.os⟩
theorem Ext.toks {own : Addr → Prop} {W W' : Wd} {s s' : Shared} (x : Ext own W s W' s') (tk : Nat) : Ext own W s W' { s' with toks := tk } :=
  ⟨x.le, x.alive, x.oth, x.kept, x.gens, x.os⟩
theorem Heap.IsCell.at' {h h' : Heap} {a : Addr} {v : Option Value} (x : h.IsCell a v) (k : ∀ o, h.get? a = some o → h'.get? a = some o) : h'.IsCell a v :=
  let ⟨o, ho, hd⟩ := x; ⟨o, k o ho, hd⟩
theorem Heap.Ns.at' {h h' : Heap} {a : Addr} {m : Str → Option Value} (x : h.Ns a m) (k : ∀ o, h.get? a = some o → h'.get? a = some o) : h'.Ns a m :=
  let ⟨o, es, ep, ho, r⟩ := x; ⟨o, es, ep, k o ho, r⟩
theorem FrV.ext {c : Cx} {p : Pl} {W W' : Wd} {loc : List AV} {s s' : Shared} {own : Addr → Prop} (F : FrV c p W loc s.heap) (x : Ext own W s W' s')
    (hL : ¬ own p.env.locals) (hC : ∀ y a, p.env.cells.lookup y = some a → ¬ own a) : FrV c p W' loc s'.heap := by
  have kL : ∀ o, s.heap.get? p.env.locals = some o → s'.heap.get? p.env.locals = some o := fun o e => x.kept _ o (by unfold Wd.Mut; rw [F.roleL]; simp [Role.mut]) hL e
  have kC : ∀ y a, p.env.cells.lookup y = some a → ∀ o, s.heap.get? a = some o → s'.heap.get? a = some o := fun y a hm o e => x.kept _ o (by unfold Wd.Mut; rw [(F.roleC y a hm).1]; simp [Role.mut]) (hC y a hm) e
  obtain ⟨ml, hns, hml⟩ := F.ns
  refine ⟨⟨ml, Heap.Ns.at' hns kL, fun i y v h1 h2 h3 h4 => ?_⟩, fun i y v h1 h2 h3 h4 => ?_, fun y a e => ?_, F.hasCell, F.kinds, F.apart, F.wcIn, (let ⟨_, _, _, ho, _⟩ := hns; x.oth _ _ ho F.roleL), fun y a hm => ?_, F.lo, F.scope, F.kind, F.globals, F.builtins, F.nodup⟩
  · obtain ⟨val, e, r⟩ := hml i y v h1 h2 h3 h4; exact ⟨val, e, r.mono x.le⟩
  · obtain ⟨val, a, e, q, r⟩ := F.cl i y v h1 h2 h3 h4; exact ⟨val, a, e, Heap.IsCell.at' q (kC y a e), r.mono x.le⟩
  · obtain ⟨v, q⟩ := F.cells y a e; exact ⟨v, Heap.IsCell.at' q (kC y a e)⟩
  · obtain ⟨r1, r2, r3⟩ := F.roleC y a hm
    obtain ⟨v, q⟩ := F.cells y a hm
    exact ⟨(let ⟨_, ho, _⟩ := q; x.oth a _ ho r1), r2, r3⟩
noncomputable def Ok (c : Cx) (p : Pl) {α β : Type} (W0 : Wd) (t : Sem α) (R : Wd → α → β → Prop) (f : AS → Option (β × AS)) : Prop :=
  ∀ (W : Wd) (st : AS) (s : Shared), Le W0 W → Inv c p W st s → ∀ (b : β) (st' : AS), f st = some (b, st') →
    ∀ (Q : α → Shared → Prop) (E : Value → Shared → Prop), (∀ W' a s', Ext p.Own W s W' s' → Inv c p W' st' s' → R W' a b → Q a s') → wpAny (model c.prog c.w) p.A t Q E s
noncomputable def bd {α β : Type} (f : AS → Option (α × AS)) (g : α → AS → Option (β × AS)) : AS → Option (β × AS) := fun st =>
  match f st with
  | some (a, st') => g a st'
  | .none => .none
noncomputable def pu {α : Type} (a : α) : AS → Option (α × AS) := fun st => some (a, st)
noncomputable def no {α : Type} : AS → Option (α × AS) := fun _ => .none
theorem bd_some {α β : Type} {f : AS → Option (α × AS)} {g : α → AS → Option (β × AS)} {st st' : AS} {b : β} (h : bd f g st = some (b, st')) : ∃ a st1, f st = some (a, st1) ∧ g a st1 = some (b, st') := by
  unfold bd at h
  split at h
  · exact ⟨_, _, by assumption, h⟩
  · cases h
theorem Ok.bind {c : Cx} {p : Pl} {α β γ δ : Type} {W0 : Wd} {t : Sem α} {k : α → Sem γ} {R : Wd → α → β → Prop} {R' : Wd → γ → δ → Prop} {f : AS → Option (β × AS)} {g : β → AS → Option (δ × AS)}
    (h1 : Ok c p W0 t R f) (h2 : ∀ W1 a b, Le W0 W1 → R W1 a b → Ok c p W1 (k a) R' (g b)) : Ok c p W0 (t >>= k) R' (bd f g) := by
  intro W st s hle I b st' e Q E hQ
  obtain ⟨a, st1, e1, e2⟩ := bd_some e
  refine wpAny_bind (h1 W st s hle I a st1 e1 _ E fun W1 va s1 x1 I1 r1 => ?_)
  exact h2 W1 va a (hle.trans x1.le) r1 W1 st1 s1 (Le.refl _) I1 b st' e2 Q E fun W2 vb s2 x2 I2 r2 => hQ W2 vb s2 (x1.trans x2) I2 r2
theorem Ok.pure {c : Cx} {p : Pl} {α β : Type} {W0 : Wd} {a : α} {b : β} {R : Wd → α → β → Prop} (h : ∀ W, Le W0 W → R W a b) : Ok c p W0 (Pure.pure a) R (pu b) := by
  intro W st s hle I b' st' e Q E hQ
  cases e
  exact wpAny_pure (hQ W a s (Ext.refl ..) I (h W hle))
theorem Ok.of {c : Cx} {p : Pl} {α β : Type} {W0 : Wd} {t t' : Sem α} {R : Wd → α → β → Prop} {f : AS → Option (β × AS)} (h : Ok c p W0 t' R f)
    (k : ∀ (s : Shared) (Q : α → Shared → Prop) (E : Value → Shared → Prop), wpAny (model c.prog c.w) p.A t' Q E s → wpAny (model c.prog c.w) p.A t Q E s) : Ok c p W0 t R f :=
  fun W st s hle I b st' e Q E hQ => k s Q E (h W st s hle I b st' e Q E hQ)
theorem Inv.toks {c : Cx} {p : Pl} {W : Wd} {st : AS} {s : Shared} (I : Inv c p W st s) (tk : Nat) : Inv c p W st { s with toks := tk } := ⟨I.hr, I.fr⟩
noncomputable def Room (n : Nat) (A : Around) : Prop := A.handled = .none ∧ A.depth + 2 * n ≤ 900 ∧ A.units + 100 * n + 100 ≤ 9000
theorem Room.units {n : Nat} {A : Around} (h : Room n A) : A.units + 64 < cLine := by have := h.2.2; unfold cLine; omega
theorem Room.depth {n : Nat} {A : Around} (h : Room n A) : A.depth < recursionLimit := by have := h.2.1; unfold recursionLimit; omega
theorem Room.deeper {n : Nat} {A : Around} (h : Room (n + 1) A) (env : Env) : Room n (A.deeper env) :=
  ⟨h.1, by have := h.2.1; show A.depth + 1 + 2 * n ≤ 900; omega, by have := h.2.2; show A.units + 3 + 100 * n + 100 ≤ 9000; omega⟩
noncomputable def ImplE (c : Cx) (n : Nat) (sx : Sx) (e : Expr) (f : AS → Option (AV × AS)) : Prop := ∀ p : Pl, p.sx = sx → Room n p.A → ∀ W0, Ok c p W0 (eval e p.env) VR f
end Mine

namespace Mine


theorem HR.grow {c : Cx} {W : Wd} {st : AS} {h h' : Heap} (H : HR c W st h) (k : ∀ b o, ((∃ o', c.h0.get? b = some o') ∨ W.role b ≠ .oth) → h.get? b = some o → h'.get? b = some o) : HR c W st h' where
  keep := fun a o e => k a o (.inl ⟨o, e⟩) (H.keep a o e)
  mutA := H.mutA
  lt := fun a => by
    rcases Classical.em (W.role a = .oth) with q | q
    · exact .inl q
    · exact (H.lt a).imp id fun ⟨o, h⟩ => ⟨o, k a o (.inr q) h⟩
  frz := fun a o e => k a o (.inr (by rw [e]; intro q; cases q)) (H.frz a o e)
  ni := H.ni
  nl := H.nl
  iaR := H.iaR
  insA := fun q i e => by
    obtain ⟨es, n, e1, e2, r⟩ := H.insA q i e
    have hq : q < W.ni := by rw [H.ni]; exact (List.getElem?_eq_some_iff.mp e).1
    obtain ⟨r1, r2⟩ := H.iaR q hq
    exact ⟨es, n, k _ _ (.inr (by rw [r1]; intro q; cases q)) e1, k _ _ (.inr (by rw [r2]; intro q; cases q)) e2, r⟩
  lstA := fun g hg p hp => by
    obtain ⟨h1, h2, vs, n, h3, h4⟩ := H.lstA g hg p hp
    exact ⟨h1, h2, vs, n, k _ _ (.inr (by rw [h2]; intro q; cases q)) h3, h4⟩
  nodup := H.nodup
theorem FrV.grow {c : Cx} {p : Pl} {W : Wd} {loc : List AV} {h h' : Heap} (F : FrV c p W loc h) (k : ∀ b o, (b = p.env.locals ∨ ∃ x, p.env.cells.lookup x = some b) → h.get? b = some o → h'.get? b = some o) : FrV c p W loc h' := by
  obtain ⟨ml, hns, hml⟩ := F.ns
  refine ⟨⟨ml, Heap.Ns.at' hns fun o e => k _ _ (.inl rfl) e, hml⟩, fun i y v h1 h2 h3 h4 => ?_, fun y a e => ?_, F.hasCell, F.kinds, F.apart, F.wcIn, F.roleL, F.roleC, F.lo, F.scope, F.kind, F.globals, F.builtins, F.nodup⟩
  · obtain ⟨val, a, e, q, r⟩ := F.cl i y v h1 h2 h3 h4
    exact ⟨val, a, e, Heap.IsCell.at' q fun o e' => k _ _ (.inr ⟨y, e⟩) e', r⟩
  · obtain ⟨v, q⟩ := F.cells y a e
    exact ⟨v, Heap.IsCell.at' q fun o e' => k _ _ (.inr ⟨y, e⟩) e'⟩
theorem FrV.localsLt {c : Cx} {p : Pl} {W : Wd} {loc : List AV} {h : Heap} (F : FrV c p W loc h) : p.env.locals < h.objs.size := let ⟨_, e, _⟩ := F.ns; e.lt
theorem FrV.cellLt {c : Cx} {p : Pl} {W : Wd} {loc : List AV} {h : Heap} (F : FrV c p W loc h) {x : Str} {a : Addr} (hm : p.env.cells.lookup x = some a) : a < h.objs.size := let ⟨_, q⟩ := F.cells x a hm; q.lt
theorem FrV.ownOth {c : Cx} {p : Pl} {W : Wd} {loc : List AV} {h : Heap} (F : FrV c p W loc h) {a : Addr} (hm : p.Own a) : W.role a = .oth := by
  rcases hm with rfl | hm
  · exact F.roleL
  · obtain ⟨x, hx⟩ := F.wcIn a hm; exact (F.roleC x a hx).1
theorem FrV.mono {c : Cx} {p : Pl} {W W' : Wd} {loc : List AV} {h : Heap} (F : FrV c p W loc h) (L : Le W W') (hL : W'.role p.env.locals = .oth) (hC : ∀ x a, p.env.cells.lookup x = some a → W'.role a = .oth) : FrV c p W' loc h := by
  obtain ⟨ml, hns, hml⟩ := F.ns
  refine ⟨⟨ml, hns, fun i y v h1 h2 h3 h4 => ?_⟩, fun i y v h1 h2 h3 h4 => ?_, F.cells, F.hasCell, F.kinds, F.apart, F.wcIn, hL, fun x a hm => ⟨hC x a hm, (F.roleC x a hm).2⟩, F.lo, F.scope, F.kind, F.globals, F.builtins, F.nodup⟩
  · obtain ⟨val, e, r⟩ := hml i y v h1 h2 h3 h4; exact ⟨val, e, r.mono L⟩
  · obtain ⟨val, a, e, q, r⟩ := F.cl i y v h1 h2 h3 h4; exact ⟨val, a, e, q, r.mono L⟩
theorem Inv.keeps {c : Cx} {p : Pl} {W : Wd} {st : AS} {s s' : Shared} (I : Inv c p W st s) (x : ∀ b o, s.heap.get? b = some o → s'.heap.get? b = some o) : Inv c p W st s' :=
  ⟨I.hr.grow (fun b o _ e => x b o e), I.fr.grow fun b o _ e => x b o e⟩
theorem Ext.keeps (own : Addr → Prop) (W : Wd) {s s' : Shared} (x : ∀ b o, s.heap.get? b = some o → s'.heap.get? b = some o) (hg : s'.gens = s.gens) (ho : s'.os = s.os) : Ext own W s W s' :=
  ⟨Le.refl W, fun a o e => ⟨o, x a o e⟩, fun _ _ _ h => h, fun a o _ _ e => x a o e, hg, ho⟩
noncomputable def Wd.set (W : Wd) (a : Addr) (r : Role) : Wd := { W with role := fun b => if b = a then r else W.role b }
theorem Wd.set_role (W : Wd) (a b : Addr) (r : Role) : (W.set a r).role b = if b = a then r else W.role b := rfl
theorem Wd.set_other {W : Wd} {a b : Addr} {r : Role} (h : b ≠ a) : (W.set a r).role b = W.role b := if_neg h
theorem Wd.set_self {W : Wd} {a : Addr} {r : Role} : (W.set a r).role a = r := if_pos rfl
theorem Le.set {W : Wd} {a : Addr} {r : Role} (h : W.role a = .oth) : Le W (W.set a r) :=
  ⟨Nat.le_refl _, Nat.le_refl _, fun _ _ => rfl, fun _ _ => rfl, fun _ _ => rfl, fun b o e => by
    rw [Wd.set_other]; exact e
    intro q; rw [q, h] at e; cases e⟩
theorem get_none_of_ge {h : Heap} {a : Addr} (ha : h.objs.size ≤ a) : h.get? a = .none := by
  cases e : h.get? a with
  | none => rfl
  | some o => exact absurd (Heap.lt_size e) (Nat.not_lt.mpr ha)
theorem HR.oth_of_none {c : Cx} {W : Wd} {st : AS} {h : Heap} (H : HR c W st h) {a : Addr} (ha : h.get? a = .none) : W.role a = .oth :=
  (H.lt a).elim id fun ⟨o, q⟩ => by rw [ha] at q; cases q
theorem HR.oth_of_ge {c : Cx} {W : Wd} {st : AS} {h : Heap} (H : HR c W st h) {a : Addr} (ha : h.objs.size ≤ a) : W.role a = .oth := H.oth_of_none (get_none_of_ge ha)
theorem HR.base_none {c : Cx} {W : Wd} {st : AS} {h : Heap} (H : HR c W st h) {a : Addr} (ha : h.get? a = .none) : c.h0.get? a = .none := by
  cases e : c.h0.get? a with
  | none => rfl
  | some o => rw [H.keep a o e] at ha; cases ha
theorem HR.newFrz {c : Cx} {W : Wd} {st : AS} {h : Heap} {a : Addr} {o : Obj} (H : HR c W st h) (hr : W.role a = .oth) (ho : h.get? a = some o) : HR c (W.set a (.frz o)) st h := by
  have L : Le W (W.set a (.frz o)) := Le.set hr
  have ne : ∀ b, W.role b ≠ .oth → (W.set a (.frz o)).role b = W.role b := fun b hb => Wd.set_other fun q => hb (q ▸ hr)
  refine ⟨H.keep, fun b hb => ?_, fun b => ?_, fun b o' e => ?_, H.ni, H.nl, fun k hk => ?_, fun k i e => ?_, fun g hg p hp => ?_, H.nodup⟩
  · refine H.mutA b ?_
    unfold Wd.Mut at hb ⊢
    rw [Wd.set_role] at hb
    split at hb
    · exact hb.elim
    · exact hb
  · rw [Wd.set_role]
    split
    · rename_i q; subst q; exact .inr ⟨o, ho⟩
    · exact H.lt b
  · rw [Wd.set_role] at e
    split at e
    · rename_i q; subst q; cases e; exact ho
    · exact H.frz b o' e
  · obtain ⟨r1, r2⟩ := H.iaR k hk
    exact ⟨(ne (W.ia k) (by rw [r1]; intro q; cases q)).trans r1, (ne (W.da k) (by rw [r2]; intro q; cases q)).trans r2⟩
  · obtain ⟨es, n, e1, e2, r⟩ := H.insA k i e
    exact ⟨es, n, e1, e2, r.mono L⟩
  · obtain ⟨h1, h2, vs, n, h3, h4⟩ := H.lstA g hg p hp
    exact ⟨h1, (ne (W.la p.1) (by rw [h2]; intro q; cases q)).trans h2, vs, n, h3, h4.mono L⟩
theorem Inv.newFrz {c : Cx} {p : Pl} {W : Wd} {st : AS} {s : Shared} {a : Addr} {o : Obj} (I : Inv c p W st s) (hr : W.role a = .oth) (ho : s.heap.get? a = some o) (hL : a ≠ p.env.locals) (hC : ∀ y, p.env.cells.lookup y ≠ some a) :
    Inv c p (W.set a (.frz o)) st s :=
  ⟨I.hr.newFrz hr ho, I.fr.mono (Le.set hr) ((Wd.set_other (Ne.symm hL)).trans I.fr.roleL) fun y b hm => (Wd.set_other (show b ≠ a from fun q => hC y (q ▸ hm))).trans (I.fr.roleC y b hm).1⟩
theorem Inv.pushFrz {c : Cx} {p : Pl} {W : Wd} {st : AS} {s : Shared} (I : Inv c p W st s) (o : Obj) (tk : Nat) (hf : o.isFreed = false := by rfl) :
    Inv c p (W.set s.heap.objs.size (.frz o)) st { s with heap := s.heap.push o, toks := tk } ∧ Ext p.Own W s (W.set s.heap.objs.size (.frz o)) { s with heap := s.heap.push o, toks := tk } := by
  have hr := I.hr.oth_of_ge (Nat.le_refl s.heap.objs.size)
  have I' : Inv c p W st { s with heap := s.heap.push o, toks := tk } := I.keeps (fun _ _ e => Heap.get?_push_of_some _ e)
  refine ⟨I'.newFrz hr (Heap.get?_push_size _ hf) (Nat.ne_of_gt I.fr.localsLt) (fun y hm => Nat.lt_irrefl _ (I.fr.cellLt hm)), Le.set hr, fun a o' e => ⟨o', Heap.get?_push_of_some _ e⟩, fun a o' ha e => ?_, fun a o' _ _ e => Heap.get?_push_of_some _ e, rfl, rfl⟩
  rw [Wd.set_other (Nat.ne_of_lt (Heap.lt_size ha))]; exact e
theorem Ok.newList {c : Cx} {p : Pl} {W0 : Wd} {vs : List Value} {xs : List AV} (h : VRs W0 vs xs) : Ok c p W0 (newList vs) VR (fun st => if xs.length ≤ 100000 then some (.lst xs, st) else .none) := by
  intro W st s hle I b st' e Q E hQ
  split at e
  · rename_i hsz
    cases e
    have hl := h.length
    refine wpAny_newObj_type ?_ (by show vs.toArray.size ≤ sizeLine; rw [List.size_toArray, sizeLine_eq]; omega)
    obtain ⟨I', x⟩ := I.pushFrz (listOf vs.toArray 0) s.toks
    exact hQ _ _ _ x I' (.lst (n := 0) Wd.set_self ((h.mono hle).mono x.le))
  · cases e
theorem Ok.newTuple {c : Cx} {p : Pl} {W0 : Wd} {vs : List Value} {xs : List AV} (h : VRs W0 vs xs) : Ok c p W0 (newTuple vs) VR (fun st => if xs.length ≤ 100000 then some (.tup xs, st) else .none) := by
  intro W st s hle I b st' e Q E hQ
  split at e
  · rename_i hsz
    cases e
    have hl := h.length
    refine wpAny_newObj_type ?_ (by show vs.toArray.size ≤ sizeLine; rw [List.size_toArray, sizeLine_eq]; omega)
    obtain ⟨I', x⟩ := I.pushFrz (tupOf vs.toArray 0) s.toks
    exact hQ _ _ _ x I' (.tup (n := 0) Wd.set_self rfl rfl ((h.mono hle).mono x.le))
  · cases e
end Mine

namespace Mine

abbrev Cm (α : Type) := AS → Option (α × AS)
structure Gd (c : Cx) : Prop where
  inK : c.K.In c.h0
  g : c.h0.Ns mainGlobals c.mg
  b : c.h0.Ns builtinsNs c.mb
  nolimit : c.h0.NoLimit
noncomputable def Cx.Glob (c : Cx) (x : Str) (v : Value) : Prop := c.mg x = some v ∨ (c.mg x = .none ∧ c.mb x = some v)
section
variable {c : Cx} {n : Nat} {sx : Sx}

noncomputable def var (i : Nat) : Cm AV := fun st =>
  match st.loc[i]? with
  | some .unb => .none
  | some v => some (v, st)
  | .none => .none
theorem var_some {i : Nat} {st st' : AS} {v : AV} (h : var i st = some (v, st')) : st.loc[i]? = some v ∧ v ≠ .unb ∧ st' = st := by
  unfold var at h
  split at h
  · cases h
  · rename_i w q hw; cases h; exact ⟨hw, q, rfl⟩
  · cases h
theorem var_get {i : Nat} {st : AS} {v : AV} (h : st.loc[i]? = some v) (hv : v ≠ .unb) : var i st = some (v, st) := by
  unfold var
  split
  · rename_i q; rw [h] at q; cases q; exact absurd rfl hv
  · rename_i q; rw [h] at q; cases q; rfl
  · rename_i q; rw [h] at q; cases q
theorem ImplE.name {x : Str} {pos : Pos} {i : Nat} (hi : sx.vars[i]? = some x) (hd : (x == ("__debug__" : Str)) = false) : ImplE c n sx (.Name x pos) (var i) := by
  intro p hp _ W0 W st s hle I v st' e Q E hQ
  subst hp
  obtain ⟨e1, e2, rfl⟩ := var_some e
  have hk : p.env.scope.kind = .function := by rw [I.fr.scope]; exact I.fr.kind
  refine wpAny_Name ?_ hd
  rcases I.fr.kinds x (List.mem_of_getElem? hi) with hl | hl
  · obtain ⟨ml, hns, hml⟩ := I.fr.ns
    obtain ⟨val, hv, r⟩ := hml i x v hi e1 e2 hl
    exact wpAny_loadName_local hk hl hns hv (hQ W val s (Ext.refl ..) I r)
  · obtain ⟨val, a, hc, hcell, r⟩ := I.fr.cl i x v hi e1 e2 hl
    exact wpAny_loadName_cell hk hl hc hcell (hQ W val s (Ext.refl ..) I r)
theorem load_glob (G : Gd c) {p : Pl} {W : Wd} {st : AS} {s : Shared} (I : Inv c p W st s) {x : Str} {pos : Pos} {v : Value} (hx : p.sx.sc.names.lookup x = some .globalImplicit) (hg : c.Glob x v) (hd : (x == ("__debug__" : Str)) = false)
    {Q : Value → Shared → Prop} {E : Value → Shared → Prop} (h : Q v s) : wpAny (model c.prog c.w) p.A (eval (.Name x pos) p.env) Q E s := by
  have hk : p.env.scope.kind = .function := by rw [I.fr.scope]; exact I.fr.kind
  have hx' : p.env.kindOf x = some .globalImplicit := by unfold Env.kindOf; rw [I.fr.scope]; exact hx
  have g1 : s.heap.Ns p.env.globals c.mg := by rw [I.fr.globals]; exact G.g.keeps I.hr.keep
  have g2 : s.heap.Ns p.env.builtins c.mb := by rw [I.fr.builtins]; exact G.b.keeps I.hr.keep
  refine Calls.Name_function_global hk hx' ?_ hd
  rcases hg with hg | ⟨hg, hb⟩
  · exact Calls.loadGlobal_global g1 hg h
  · exact Calls.loadGlobal_builtin g1 hg g2 hb h
theorem ImplE.cnone {k : Nat} {pos : Pos} : ImplE c n sx (.Constant .none k pos) (pu .none) := by
  intro p _ _ W0 W st s hle I b st' e Q E hQ; cases e
  exact wpAny_Constant_none (hQ W _ s (Ext.refl ..) I .none)
theorem ImplE.cbool {b : Bool} {k : Nat} {pos : Pos} : ImplE c n sx (.Constant (.bool b) k pos) (pu (.bool b)) := by
  intro p _ _ W0 W st s hle I b st' e Q E hQ; cases e
  exact wpAny_Constant_bool (hQ W _ s (Ext.refl ..) I (.bool _))
theorem ImplE.cint {i : Int} {k : Nat} {pos : Pos} : ImplE c n sx (.Constant (.int i) k pos) (pu (.int i)) := by
  intro p _ _ W0 W st s hle I b st' e Q E hQ; cases e
  exact wpAny_Constant_int (hQ W _ _ ((Ext.refl ..).toks _) (I.toks _) (.int _ _))
theorem ImplE.cstr {x : Str} {k : Nat} {pos : Pos} : ImplE c n sx (.Constant (.str x) k pos) (pu (.str x)) := by
  intro p _ _ W0 W st s hle I b st' e Q E hQ; cases e
  exact wpAny_Constant_str (hQ W _ _ ((Ext.refl ..).toks _) (I.toks _) (.str _ _))
noncomputable def ImplEs (c : Cx) (n : Nat) (sx : Sx) (es : List Expr) (f : Cm (List AV)) : Prop := ∀ p : Pl, p.sx = sx → Room n p.A → ∀ W0 pos, Ok c p W0 (spliced (backTo pos (starEach es p.env))) VRs f
noncomputable def plainX : Expr → Bool
  | .Starred .. => false
  | _ => true
theorem star_plain {e : Expr} {rest : List Expr} {env : Env} (h : plainX e = true) : starEach (e :: rest) env = (false, eval e env) :: starEach rest env := by
  cases e <;> first | rfl | cases h
theorem ImplEs.nil : ImplEs c n sx [] (pu []) := by
  intro p _ _ W0 pos W st s hle I b st' e Q E hQ; cases e
  exact wpAny_items_nil (hQ W _ s (Ext.refl ..) I .nil)
noncomputable def consM (f : Cm AV) (g : Cm (List AV)) : Cm (List AV) := bd f fun x => bd g fun xs => pu (x :: xs)
theorem ImplEs.cons {e : Expr} {es : List Expr} {f : Cm AV} {g : Cm (List AV)} (h1 : ImplE c n sx e f) (h2 : ImplEs c n sx es g) (hp : plainX e = true := by rfl) : ImplEs c n sx (e :: es) (consM f g) := by
  intro p hsx hr W0 pos W st s hle I b st' e Q E hQ
  obtain ⟨x, st1, e1, e2⟩ := bd_some e
  obtain ⟨xs, st2, e3, e4⟩ := bd_some e2
  cases e4
  refine wpAny_items_cons (h1 p hsx hr W W st s (Le.refl _) I x st1 e1 _ E fun W1 v s1 x1 I1 r1 => ?_) (star_plain hp)
  refine h2 p hsx hr W1 pos W1 st1 s1 (Le.refl _) I1 xs st' e3 _ E fun W2 vs s2 x2 I2 r2 => ?_
  exact hQ W2 _ s2 (x1.trans x2) I2 (.cons (r1.mono x2.le) r2)
noncomputable def lstM (xs : List AV) : Cm AV := fun st => if xs.length ≤ 100000 then some (.lst xs, st) else .none
noncomputable def tupM (xs : List AV) : Cm AV := fun st => if xs.length ≤ 100000 then some (.tup xs, st) else .none
theorem ImplE.list {es : List Expr} {pos : Pos} {f : Cm (List AV)} (h : ImplEs c n sx es f) : ImplE c n sx (.List es pos) (bd f lstM) := by
  intro p hsx hr W0 W st s hle I b st' e Q E hQ
  obtain ⟨xs, st1, e1, e2⟩ := bd_some e
  refine List_ (h p hsx hr W pos W st s (Le.refl _) I xs st1 e1 _ E fun W1 vs s1 x1 I1 r1 => ?_)
  exact Ok.newList r1 W1 st1 s1 (Le.refl _) I1 b st' e2 Q E fun W2 v s2 x2 I2 r2 => hQ W2 v s2 (x1.trans x2) I2 r2
theorem ImplE.tuple {es : List Expr} {k : Nat} {pos : Pos} {f : Cm (List AV)} (h : ImplEs c n sx es f) : ImplE c n sx (.Tuple es k pos) (bd f tupM) := by
  intro p hsx hr W0 W st s hle I b st' e Q E hQ
  obtain ⟨xs, st1, e1, e2⟩ := bd_some e
  refine Tuple_ (h p hsx hr W pos W st s (Le.refl _) I xs st1 e1 _ E fun W1 vs s1 x1 I1 r1 => ?_)
  exact Ok.newTuple r1 W1 st1 s1 (Le.refl _) I1 b st' e2 Q E fun W2 v s2 x2 I2 r2 => hQ W2 v s2 (x1.trans x2) I2 r2
noncomputable def OkBin (c : Cx) (n : Nat) (op : Operator) (g : AV → AV → Cm AV) : Prop := ∀ p : Pl, Room n p.A → ∀ W0 a b x y, VR W0 a x → VR W0 b y → Ok c p W0 (binaryOp op a b) VR (g x y)
noncomputable def OkCmp (c : Cx) (n : Nat) (op : CmpOp) (g : AV → AV → Cm Bool) : Prop := ∀ p : Pl, Room n p.A → ∀ W0 a b x y, VR W0 a x → VR W0 b y → Ok c p W0 (compareOp op a b) (fun _ v b => v = .bool b) (g x y)
noncomputable def bin2 (f g : Cm AV) (h : AV → AV → Cm AV) : Cm AV := bd f fun x => bd g fun y => h x y
noncomputable def cmp2 (f g : Cm AV) (h : AV → AV → Cm Bool) : Cm Bool := bd f fun x => bd g fun y => h x y
theorem ImplE.bin {l r : Expr} {op : Operator} {pos : Pos} {f g : Cm AV} {h : AV → AV → Cm AV} (h1 : ImplE c n sx l f) (h2 : ImplE c n sx r g) (h3 : OkBin c n op h) : ImplE c n sx (.BinOp l op r pos) (bin2 f g h) := by
  intro p hsx hr W0 W st s hle I b st' e Q E hQ
  obtain ⟨x, st1, e1, e2⟩ := bd_some e
  obtain ⟨y, st2, e3, e4⟩ := bd_some e2
  refine wpAny_BinOp (h1 p hsx hr W W st s (Le.refl _) I x st1 e1 _ E fun W1 a s1 x1 I1 r1 => ?_)
  refine h2 p hsx hr W1 W1 st1 s1 (Le.refl _) I1 y st2 e3 _ E fun W2 vb s2 x2 I2 r2 => ?_
  exact h3 p hr W2 a vb x y (r1.mono x2.le) r2 W2 st2 s2 (Le.refl _) I2 b st' e4 Q E fun W3 v s3 x3 I3 r3 => hQ W3 v s3 ((x1.trans x2).trans x3) I3 r3
noncomputable def boolV (f : Cm Bool) : Cm AV := bd f fun b => pu (.bool b)
theorem ImplE.cmp {l r : Expr} {op : CmpOp} {pos : Pos} {f g : Cm AV} {h : AV → AV → Cm Bool} (h1 : ImplE c n sx l f) (h2 : ImplE c n sx r g) (h3 : OkCmp c n op h) (hm : behindInMarks op r = false := by rfl) :
    ImplE c n sx (.Compare l [op] [r] pos) (boolV (cmp2 f g h)) := by
  intro p hsx hr W0 W st s hle I b st' e Q E hQ
  obtain ⟨bb, st0, e0, e00⟩ := bd_some e
  cases e00
  obtain ⟨x, st1, e1, e2⟩ := bd_some e0
  obtain ⟨y, st2, e3, e4⟩ := bd_some e2
  refine wpAny_Compare1 (h1 p hsx hr W W st s (Le.refl _) I x st1 e1 _ E fun W1 a s1 x1 I1 r1 => ?_) hm
  refine h2 p hsx hr W1 W1 st1 s1 (Le.refl _) I1 y st2 e3 _ E fun W2 vb s2 x2 I2 r2 => ?_
  exact h3 p hr W2 a vb x y (r1.mono x2.le) r2 W2 st2 s2 (Le.refl _) I2 bb st' e4 Q E fun W3 v s3 x3 I3 r3 => hQ W3 v s3 ((x1.trans x2).trans x3) I3 (r3 ▸ .bool bb)
noncomputable def ImplT (c : Cx) (n : Nat) (sx : Sx) (e : Expr) (f : Cm Bool) : Prop := ∀ p : Pl, p.sx = sx → Room n p.A → ∀ W0, Ok c p W0 (isTrue e p.env (eval e p.env)) (fun _ a b => a = b) f
theorem ImplT.cmp {l r : Expr} {op : CmpOp} {pos : Pos} {f g : Cm AV} {h : AV → AV → Cm Bool} (h1 : ImplE c n sx l f) (h2 : ImplE c n sx r g) (h3 : OkCmp c n op h) (hm : behindInMarks op r = false := by rfl) :
    ImplT c n sx (.Compare l [op] [r] pos) (cmp2 f g h) := by
  intro p hsx hr W0 W st s hle I b st' e Q E hQ
  obtain ⟨x, st1, e1, e2⟩ := bd_some e
  obtain ⟨y, st2, e3, e4⟩ := bd_some e2
  refine wpAny_isTrue_Compare1 (h1 p hsx hr W W st s (Le.refl _) I x st1 e1 _ E fun W1 a s1 x1 I1 r1 => ?_) hm
  refine h2 p hsx hr W1 W1 st1 s1 (Le.refl _) I1 y st2 e3 _ E fun W2 vb s2 x2 I2 r2 => ?_
  refine h3 p hr W2 a vb x y (r1.mono x2.le) r2 W2 st2 s2 (Le.refl _) I2 b st' e4 _ E fun W3 v s3 x3 I3 r3 => ?_
  subst r3
  exact wpAny_truthy_bool (hQ W3 b s3 ((x1.trans x2).trans x3) I3 rfl)
noncomputable def truthM : AV → Cm Bool
  | .bool b => pu b
  | .none => pu false
  | _ => no
theorem truth_ok {p : Pl} {W0 : Wd} {v : Value} {x : AV} (h : VR W0 v x) : Ok c p W0 (truthy v) (fun _ a b => a = b) (truthM x) := by
  intro W st s hle I b st' e Q E hQ
  cases h with
  | bool b' => cases e; exact wpAny_truthy_bool (hQ W _ s (Ext.refl ..) I rfl)
  | none => cases e; exact truthy_none (hQ W _ s (Ext.refl ..) I rfl)
  | _ => cases e
noncomputable def plainT : Expr → Bool
  | .UnaryOp .. | .BoolOp .. | .IfExp .. | .Compare .. => false
  | _ => true
theorem isTrue_is {e : Expr} {env : Env} {t : Sem Value} (h : plainT e = true) : isTrue e env t = (do let v ← t; standAt e.pos; holding [v] (truthy v)) := by
  cases e <;> first | rfl | cases h
theorem ImplT.value {e : Expr} {f : Cm AV} (h : ImplE c n sx e f) (hp : plainT e = true := by rfl) : ImplT c n sx e (bd f truthM) := by
  intro p hsx hr W0 W st s hle I b st' e Q E hQ
  obtain ⟨x, st1, e1, e2⟩ := bd_some e
  refine wpAny_isTrue_value (h p hsx hr W W st s (Le.refl _) I x st1 e1 _ E fun W1 a s1 x1 I1 r1 => ?_) (isTrue_is hp)
  exact truth_ok r1 W1 st1 s1 (Le.refl _) I1 b st' e2 Q E fun W2 v s2 x2 I2 r2 => hQ W2 v s2 (x1.trans x2) I2 r2
noncomputable def notM (f : Cm Bool) : Cm Bool := bd f fun b => pu (!b)
theorem ImplT.not {e : Expr} {pos : Pos} {f : Cm Bool} (h : ImplT c n sx e f) : ImplT c n sx (.UnaryOp .Not e pos) (notM f) := by
  intro p hsx hr W0 W st s hle I b st' e Q E hQ
  obtain ⟨x, st1, e1, e2⟩ := bd_some e
  cases e2
  refine wpAny_isTrue_Not (h p hsx hr W W st s (Le.refl _) I x st' e1 _ E fun W1 a s1 x1 I1 r1 => ?_)
  exact hQ W1 _ s1 x1 I1 (by rw [r1])
noncomputable def ImplTs (c : Cx) (n : Nat) (sx : Sx) (op : BoolOp) (es : List Expr) (f : Cm Bool) : Prop := ∀ p : Pl, p.sx = sx → Room n p.A → ∀ W0, Ok c p W0 (allTrue op es p.env) (fun _ a b => a = b) f
noncomputable def andM (f g : Cm Bool) : Cm Bool := bd f fun b => if b then g else pu false
noncomputable def orM (f g : Cm Bool) : Cm Bool := bd f fun b => if b then pu true else g
theorem ImplTs.andNil : ImplTs c n sx .And [] (pu true) := by
  intro p _ _ W0 W st s hle I b st' e Q E hQ; cases e
  exact wpAny_allTrue_And_nil (hQ W _ s (Ext.refl ..) I rfl)
theorem ImplTs.orNil : ImplTs c n sx .Or [] (pu false) := by
  intro p _ _ W0 W st s hle I b st' e Q E hQ; cases e
  exact wpAny_allTrue_Or_nil (hQ W _ s (Ext.refl ..) I rfl)
theorem ImplTs.and {e : Expr} {es : List Expr} {f g : Cm Bool} (h1 : ImplT c n sx e f) (h2 : ImplTs c n sx .And es g) : ImplTs c n sx .And (e :: es) (andM f g) := by
  intro p hsx hr W0 W st s hle I b st' e Q E hQ
  obtain ⟨x, st1, e1, e2⟩ := bd_some e
  refine wpAny_allTrue_And_cons (h1 p hsx hr W W st s (Le.refl _) I x st1 e1 _ E fun W1 a s1 x1 I1 r1 => ?_)
  subst r1
  cases a with
  | true => exact h2 p hsx hr W1 W1 st1 s1 (Le.refl _) I1 b st' e2 Q E fun W2 v s2 x2 I2 r2 => hQ W2 v s2 (x1.trans x2) I2 r2
  | false => cases e2; exact hQ W1 _ s1 x1 I1 rfl
theorem ImplTs.or {e : Expr} {es : List Expr} {f g : Cm Bool} (h1 : ImplT c n sx e f) (h2 : ImplTs c n sx .Or es g) : ImplTs c n sx .Or (e :: es) (orM f g) := by
  intro p hsx hr W0 W st s hle I b st' e Q E hQ
  obtain ⟨x, st1, e1, e2⟩ := bd_some e
  refine wpAny_allTrue_Or_cons (h1 p hsx hr W W st s (Le.refl _) I x st1 e1 _ E fun W1 a s1 x1 I1 r1 => ?_)
  subst r1
  cases a with
  | false => exact h2 p hsx hr W1 W1 st1 s1 (Le.refl _) I1 b st' e2 Q E fun W2 v s2 x2 I2 r2 => hQ W2 v s2 (x1.trans x2) I2 r2
  | true => cases e2; exact hQ W1 _ s1 x1 I1 rfl
theorem ImplT.bool {op : BoolOp} {es : List Expr} {pos : Pos} {f : Cm Bool} (h : ImplTs c n sx op es f) : ImplT c n sx (.BoolOp op es pos) f :=
  fun p hsx hr W0 => (h p hsx hr W0).of fun _ _ _ k => wpAny_isTrue_BoolOp k
noncomputable def iteM {α : Type} (t : Cm Bool) (f g : Cm α) : Cm α := bd t fun b => if b then f else g
theorem ImplE.ifexp {t a b : Expr} {pos : Pos} {ft : Cm Bool} {fa fb : Cm AV} (h0 : ImplT c n sx t ft) (h1 : ImplE c n sx a fa) (h2 : ImplE c n sx b fb) : ImplE c n sx (.IfExp t a b pos) (iteM ft fa fb) := by
  intro p hsx hr W0 W st s hle I b st' e Q E hQ
  obtain ⟨x, st1, e1, e2⟩ := bd_some e
  refine wpAny_IfExp (h0 p hsx hr W W st s (Le.refl _) I x st1 e1 _ E fun W1 a s1 x1 I1 r1 => ?_)
  subst r1
  cases a with
  | true => exact h1 p hsx hr W1 W1 st1 s1 (Le.refl _) I1 b st' e2 Q E fun W2 v s2 x2 I2 r2 => hQ W2 v s2 (x1.trans x2) I2 r2
  | false => exact h2 p hsx hr W1 W1 st1 s1 (Le.refl _) I1 b st' e2 Q E fun W2 v s2 x2 I2 r2 => hQ W2 v s2 (x1.trans x2) I2 r2
end
end Mine

namespace Mine

section
variable {c : Cx} {n : Nat} {sx : Sx}

noncomputable def setV (i : Nat) (v : AV) : Cm Unit := fun st => some ((), { st with loc := st.loc.set i v })
theorem HR.loc {W : Wd} {st : AS} {h : Heap} (H : HR c W st h) (l : List AV) : HR c W { st with loc := l } h :=
  ⟨H.keep, H.mutA, H.lt, H.frz, H.ni, H.nl, H.iaR, H.insA, H.lstA, H.nodup⟩
theorem nodup_get : ∀ {l : List Str}, l.Nodup → ∀ {i j : Nat} {x : Str}, l[i]? = some x → l[j]? = some x → i = j
  | [], _, i, j, x, hi, _ => by simp at hi
  | y :: r, h, i, j, x, hi, hj => by
    obtain ⟨h1, h2⟩ := List.nodup_cons.mp h
    cases i with
    | zero =>
      cases j with
      | zero => rfl
      | succ j => simp at hi hj; subst hi; exact absurd (List.mem_of_getElem? hj) h1
    | succ i =>
      cases j with
      | zero => simp at hi hj; subst hj; exact absurd (List.mem_of_getElem? hi) h1
      | succ j => simp at hi hj; exact congrArg _ (nodup_get h2 hi hj)
theorem store_ok {p : Pl} {W0 : Wd} {i : Nat} {x : Str} {val : Value} {v : AV} (hi : p.sx.vars[i]? = some x) (hw : x ∈ p.sx.wr) (hv : VR W0 val v) : Ok c p W0 (storeName p.env x val) (fun _ _ _ => True) (setV i v) := by
  intro W st s hle I b st' e Q E hQ
  cases e
  have F := I.fr
  have hk : p.env.scope.kind = .function := by rw [F.scope]; exact F.kind
  have hv' := hv.mono hle
  obtain ⟨ml, hns, hml⟩ := F.ns
  rcases F.kinds x (List.mem_of_getElem? hi) with hl | hl
  · refine wpAny_storeName_local hl hns (fun h' hns' hsb => ?_) (by rw [hk]; rfl)
    have keepR : ∀ b o, b ≠ p.env.locals → s.heap.get? b = some o → h'.get? b = some o := fun b o hb e => hsb.extBut b o hb e
    refine hQ W () _ ⟨Le.refl W, fun a o e => ?_, fun _ _ _ e => e, fun a o _ hno e => keepR a o (fun q => hno (.inl q)) e, rfl, rfl⟩ ⟨?_, ?_⟩ trivial
    · rcases Classical.em (a = p.env.locals) with q | q
      · subst q; obtain ⟨o', _, _, ho', _⟩ := hns'; exact ⟨o', ho'⟩
      · exact ⟨o, keepR a o q e⟩
    · refine (I.hr.loc _).grow fun b o hb e => keepR b o (fun q => ?_) e
      subst q
      rcases hb with ⟨o', hb⟩ | hb
      · rw [F.lo] at hb; cases hb
      · exact hb F.roleL
    · refine ⟨⟨_, hns', fun j y u h1 h2 h3 h4 => ?_⟩, fun j y u h1 h2 h3 h4 => ?_, fun y a hm => ?_, F.hasCell, F.kinds, F.apart, F.wcIn, F.roleL, F.roleC, F.lo, F.scope, F.kind, F.globals, F.builtins, F.nodup⟩
      · simp only [List.getElem?_set] at h2
        by_cases hij : i = j
        · subst hij
          rw [hi] at h1; cases h1
          rw [if_pos rfl] at h2
          split at h2
          · cases h2; exact ⟨val, if_pos rfl, hv'⟩
          · cases h2
        · rw [if_neg hij] at h2
          obtain ⟨vl, e1, r⟩ := hml j y u h1 h2 h3 h4
          have : y ≠ x := fun q => hij (nodup_get F.nodup hi (q ▸ h1))
          exact ⟨vl, by simp only [this, if_false]; exact e1, r⟩
      · simp only [List.getElem?_set] at h2
        have hij : i ≠ j := fun q => by subst q; rw [hi] at h1; cases h1; rw [hl] at h4; cases h4
        rw [if_neg hij] at h2
        obtain ⟨vl, a, e1, q, r⟩ := F.cl j y u h1 h2 h3 h4
        exact ⟨vl, a, e1, q.sameBut hsb (F.roleC y a e1).2.1, r⟩
      · obtain ⟨u, q⟩ := F.cells y a hm
        exact ⟨u, q.sameBut hsb (F.roleC y a hm).2.1⟩
  · obtain ⟨a, hc, hwc⟩ := F.hasCell x (List.mem_of_getElem? hi) hl
    have hwc := hwc hw
    obtain ⟨v0, hcell⟩ := F.cells x a hc
    have hra := F.roleC x a hc
    refine wpAny_storeName_cell hk hl hc hcell fun h' hcell' hsb => ?_
    have keepR : ∀ b o, b ≠ a → s.heap.get? b = some o → h'.get? b = some o := fun b o hb e => hsb.extBut b o hb e
    refine hQ W () _ ⟨Le.refl W, fun b o e => ?_, fun _ _ _ e => e, fun b o _ hno e => keepR b o (fun q => hno (.inr (q ▸ hwc))) e, rfl, rfl⟩ ⟨?_, ?_⟩ trivial
    · rcases Classical.em (b = a) with q | q
      · subst q; obtain ⟨o', ho', _⟩ := hcell'; exact ⟨o', ho'⟩
      · exact ⟨o, keepR b o q e⟩
    · refine (I.hr.loc _).grow fun b o hb e => keepR b o (fun q => ?_) e
      subst q
      rcases hb with ⟨o', hb⟩ | hb
      · rw [hra.2.2] at hb; cases hb
      · exact hb hra.1
    · refine ⟨⟨ml, hns.sameBut hsb (Ne.symm hra.2.1), fun j y u h1 h2 h3 h4 => ?_⟩, fun j y u h1 h2 h3 h4 => ?_, fun y b hm => ?_, F.hasCell, F.kinds, F.apart, F.wcIn, F.roleL, F.roleC, F.lo, F.scope, F.kind, F.globals, F.builtins, F.nodup⟩
      · simp only [List.getElem?_set] at h2
        have hij : i ≠ j := fun q => by subst q; rw [hi] at h1; cases h1; rw [hl] at h4; cases h4
        rw [if_neg hij] at h2
        exact hml j y u h1 h2 h3 h4
      · simp only [List.getElem?_set] at h2
        by_cases hij : i = j
        · subst hij
          rw [hi] at h1; cases h1
          rw [if_pos rfl] at h2
          split at h2
          · cases h2; exact ⟨val, a, hc, hcell', hv'⟩
          · cases h2
        · rw [if_neg hij] at h2
          obtain ⟨vl, b, e1, q, r⟩ := F.cl j y u h1 h2 h3 h4
          have : y ≠ x := fun q => hij (nodup_get F.nodup hi (q ▸ h1))
          have hba : b ≠ a := fun q => this (name_of_addr F.apart (mem_of_lookup e1) (q ▸ mem_of_lookup hc))
          exact ⟨vl, b, e1, q.sameBut hsb hba, r⟩
      · rcases Classical.em (b = a) with q | q
        · subst q; exact ⟨_, hcell'⟩
        · obtain ⟨u, h⟩ := F.cells y b hm
          exact ⟨u, h.sameBut hsb q⟩
noncomputable def ImplA (c : Cx) (n : Nat) (sx : Sx) (t : Expr) (f : AV → Cm Unit) : Prop := ∀ p : Pl, p.sx = sx → Room n p.A → ∀ W0 val x, VR W0 val x → Ok c p W0 (assign t p.env val) (fun _ _ _ => True) (f x)
theorem ImplA.name {x : Str} {pos : Pos} {i : Nat} (hi : sx.vars[i]? = some x) (hw : sx.wr[i]? = some x) : ImplA c n sx (.Name x pos) (setV i) := by
  have hw := List.mem_of_getElem? hw
  intro p hsx hr W0 val v hv
  subst hsx
  exact (store_ok hi hw hv).of fun s Q E h => wpAny_assign_Name h
noncomputable def ImplAs (c : Cx) (n : Nat) (sx : Sx) (ts : List Expr) (f : List AV → Cm Unit) : Prop :=
  ∀ p : Pl, p.sx = sx → Room n p.A → (assignEach ts p.env).length = ts.length ∧ (assignEach ts p.env).findIdx? (·.1) = .none ∧
    ∀ W0 vals xs, VRs W0 vals xs → xs.length = ts.length → Ok c p W0 (assignInOrder ((assignEach ts p.env).map (·.2)) vals) (fun _ _ _ => True) (f xs)
noncomputable def nilA : List AV → Cm Unit := fun xs => match xs with | [] => pu () | _ => no
noncomputable def consA (f : AV → Cm Unit) (g : List AV → Cm Unit) : List AV → Cm Unit := fun xs => match xs with
  | x :: r => bd (f x) fun _ => g r
  | [] => no
theorem ImplAs.nil : ImplAs c n sx [] nilA := by
  intro p hsx hr
  refine ⟨rfl, rfl, fun W0 vals xs h hl W st s hle I b st' e Q E hQ => ?_⟩
  cases h with
  | nil => cases e; exact wpAny_pure (hQ W _ s (Ext.refl ..) I trivial)
  | cons => cases hl
theorem assign_plain {t : Expr} {ts : List Expr} {env : Env} (h : plainX t = true) : assignEach (t :: ts) env = (false, assign t env) :: assignEach ts env := by
  cases t <;> first | rfl | cases h
theorem ImplAs.cons {t : Expr} {ts : List Expr} {f : AV → Cm Unit} {g : List AV → Cm Unit} (h1 : ImplA c n sx t f) (h2 : ImplAs c n sx ts g) (hp : plainX t = true := by rfl) : ImplAs c n sx (t :: ts) (consA f g) := by
  intro p hsx hr
  obtain ⟨a1, a2, a3⟩ := h2 p hsx hr
  refine ⟨by rw [assign_plain hp, List.length_cons, List.length_cons, a1], by rw [assign_plain hp, List.findIdx?_cons]; simp [a2], fun W0 vals xs h hl W st s hle I b st' e Q E hQ => ?_⟩
  cases h with
  | nil => cases hl
  | cons hv hvs =>
    obtain ⟨u, st1, e1, e2⟩ := bd_some e
    rw [assign_plain hp]
    show wpAny _ _ (do holding _ (assign t p.env _); assignInOrder ((assignEach ts p.env).map (·.2)) _) Q E s
    refine wpAny_bind (wpAny_holding (h1 p hsx hr W _ _ (hv.mono hle) W st s (Le.refl _) I u st1 e1 _ E fun W1 _ s1 x1 I1 _ => ?_))
    exact a3 W1 _ _ ((hvs.mono hle).mono x1.le) (by simpa using hl) W1 st1 s1 (Le.refl _) I1 b st' e2 Q E fun W2 v s2 x2 I2 r2 => hQ W2 v s2 (x1.trans x2) I2 r2
noncomputable def unpackM (k : Nat) (g : List AV → Cm Unit) : AV → Cm Unit := fun x => match x with
  | .tup xs => if xs.length = k then g xs else no
  | _ => no
theorem HR.isTuple {W : Wd} {st : AS} {h : Heap} (H : HR c W st h) {a : Addr} {o : Obj} {vs : List Value} {k : Nat} (e : W.role a = .frz o) (e1 : o.cls = .type "tuple") (e2 : o.data = .seq vs.toArray k) : h.IsTuple a vs.toArray := ⟨o, H.frz a _ e, e1, _, e2⟩
theorem HR.isList {W : Wd} {st : AS} {h : Heap} (H : HR c W st h) {a : Addr} {vs : List Value} {k : Nat} (e : W.role a = .frz (listOf vs.toArray k)) : h.IsList a vs.toArray := ⟨_, H.frz a _ e, rfl, _, rfl⟩
theorem Inv.unext {p : Pl} {W : Wd} {st : AS} {s : Shared} (I : Inv c p W st s) {h' : Heap} (x : Heap.ExtBut s.heap.objs.size s.heap h') :
    Inv c p W st { s with heap := h' } ∧ Ext p.Own W s W { s with heap := h' } := by
  have k : ∀ b o, s.heap.get? b = some o → h'.get? b = some o := fun b o e => x b o (Nat.ne_of_lt (Heap.lt_size e)) e
  exact ⟨I.keeps (s' := { s with heap := h' }) k, Ext.keeps (s' := { s with heap := h' }) _ _ k rfl rfl⟩
theorem ImplA.tuple {ts : List Expr} {k : Nat} {pos : Pos} {g : List AV → Cm Unit} (h : ImplAs c n sx ts g) : ImplA c n sx (.Tuple ts k pos) (unpackM ts.length g) := by
  intro p hsx hr W0 val x hv W st s hle I b st' e Q E hQ
  obtain ⟨a1, a2, a3⟩ := h p hsx hr
  cases hv.mono hle with
  | tup hrole c1 c2 hvs =>
    simp only [unpackM] at e
    split at e
    · rename_i hl
      refine wpAny_assign_Tuple hr.1 (I.hr.isTuple hrole c1 c2) (by rw [a1, List.size_toArray, hvs.length, hl]) a2 fun h' hx => ?_
      obtain ⟨I', x'⟩ := I.unext hx
      exact a3 W _ _ hvs hl W st _ (Le.refl _) I' b st' e Q E fun W2 v s2 x2 I2 r2 => hQ W2 v s2 (x'.trans x2) I2 r2
    · cases e
  | _ => cases e
inductive AF where
  | next
  | ret (v : AV)
inductive FlowR (W : Wd) : Flow → AF → Prop
  | next : FlowR W .next .next
  | ret {v : Value} {x : AV} : VR W v x → FlowR W (.ret v) (.ret x)
noncomputable def ImplS1 (c : Cx) (n : Nat) (sx : Sx) (t : Stmt) (f : Cm AF) : Prop := ∀ p : Pl, p.sx = sx → Room n p.A → ∀ W0, Ok c p W0 (exec t p.env) FlowR f
noncomputable def ImplS (c : Cx) (n : Nat) (sx : Sx) (ts : List Stmt) (f : Cm AF) : Prop := ∀ p : Pl, p.sx = sx → Room n p.A → ∀ W0, Ok c p W0 (execs ts p.env) FlowR f
noncomputable def thenM (f g : Cm AF) : Cm AF := bd f fun r => match r with
  | .next => g
  | .ret v => pu (.ret v)
theorem ImplS.nil : ImplS c n sx [] (pu .next) := by
  intro p _ _ W0 W st s hle I b st' e Q E hQ; cases e
  exact wpAny_execs_nil (hQ W _ s (Ext.refl ..) I .next)
theorem ImplS.cons {t : Stmt} {ts : List Stmt} {f g : Cm AF} (h1 : ImplS1 c n sx t f) (h2 : ImplS c n sx ts g) : ImplS c n sx (t :: ts) (thenM f g) := by
  intro p hsx hr W0 W st s hle I b st' e Q E hQ
  obtain ⟨r, st1, e1, e2⟩ := bd_some e
  refine wpAny_execs_cons (h1 p hsx hr W W st s (Le.refl _) I r st1 e1 _ E fun W1 fl s1 x1 I1 r1 => ?_)
  cases r1 with
  | next => exact h2 p hsx hr W1 W1 st1 s1 (Le.refl _) I1 b st' e2 Q E fun W2 v s2 x2 I2 r2 => hQ W2 v s2 (x1.trans x2) I2 r2
  | ret hv => cases e2; exact hQ W1 _ s1 x1 I1 (.ret hv)
noncomputable def envS (sc : Scope) : Env := { scope := sc, locals := 0, globals := 0, cells := [] }
noncomputable def asgM (f : Cm AV) (g : AV → Cm Unit) : Cm AF := bd f fun x => bd (g x) fun _ => pu .next
theorem swaps1_static {t : Option Expr} {value : Expr} {line : Nat} {env : Env} {sc : Scope} (h : env.scope = sc) : swapsWith value t line env = swapsWith value t line (envS sc) := by
  obtain ⟨scope, locals, globals, cells, qual, func, code, frame, builtins⟩ := env
  dsimp only at h; subst h; rfl
theorem swaps_static {t : List Expr} {value : Expr} {line : Nat} {env : Env} {sc : Scope} (h : env.scope = sc) : swapsWithSole t value line env = swapsWithSole t value line (envS sc) := by
  cases t with
  | nil => rfl
  | cons a r =>
    cases r with
    | nil => exact swaps1_static h
    | cons => rfl
theorem stores_static {t : List Expr} {value : Expr} {env : Env} {sc : Scope} (h : env.scope = sc) : swappedStores t value env = swappedStores t value (envS sc) := by
  obtain ⟨scope, locals, globals, cells, qual, func, code, frame, builtins⟩ := env
  dsimp only at h; subst h; rfl
theorem assignAll_one {t : Expr} {env : Env} {v : Value} (h : plainX t = true) : assignAll v ((assignEach [t] env).map (·.2)) = assign t env v := by
  rw [assign_plain h]; rfl
theorem ImplS1.assign {t value : Expr} {pos : Pos} {f : Cm AV} {g : AV → Cm Unit} (h1 : ImplE c n sx value f) (h2 : ImplA c n sx t g)
    (hs : swapsWithSole [t] value pos.line (envS sx.sc) = pure false := by rfl) (hw : swappedStores [t] value (envS sx.sc) = pure .none := by rfl) (hp : plainX t = true := by rfl) :
    ImplS1 c n sx (.Assign [t] value pos) (asgM f g) := by
  intro p hsx hr W0 W st s hle I b st' e Q E hQ
  obtain ⟨x, st1, e1, e2⟩ := bd_some e
  obtain ⟨u, st2, e3, e4⟩ := bd_some e2
  cases e4
  have hsc : p.env.scope = sx.sc := by rw [I.fr.scope, hsx]
  refine wpAny_Assign_stores (h1 p hsx hr W W st s (Le.refl _) I x st1 e1 _ E fun W1 v s1 x1 I1 r1 => ?_) (by rw [swaps_static hsc]; exact hs) (by rw [stores_static hsc]; exact hw)
  rw [assignAll_one hp]
  exact h2 p hsx hr W1 v x r1 W1 st1 s1 (Le.refl _) I1 u st' e3 _ E fun W2 _ s2 x2 I2 _ => hQ W2 _ s2 (x1.trans x2) I2 .next
noncomputable def ImplN (c : Cx) (sx : Sx) (xs : List Str) (f : List AV → Cm Unit) : Prop :=
  ∀ p : Pl, p.sx = sx → ∀ W0 vals ys, VRs W0 vals ys → ys.length = xs.length → Ok c p W0 (assignInOrder (xs.map fun x => bindName p.env x) vals) (fun _ _ _ => True) (f ys)
theorem ImplN.nil : ImplN c sx [] nilA := by
  intro p hsx W0 vals ys h hl W st s hle I b st' e Q E hQ
  cases h with
  | nil => cases e; exact wpAny_pure (hQ W _ s (Ext.refl ..) I trivial)
  | cons => cases hl
theorem ImplN.cons {x : Str} {xs : List Str} {i : Nat} {g : List AV → Cm Unit} (hi : sx.vars[i]? = some x) (hw : sx.wr[i]? = some x) (h2 : ImplN c sx xs g) : ImplN c sx (x :: xs) (consA (setV i) g) := by
  have hw := List.mem_of_getElem? hw
  intro p hsx W0 vals ys h hl W st s hle I b st' e Q E hQ
  cases h with
  | nil => cases hl
  | cons hv hvs =>
    obtain ⟨u, st1, e1, e2⟩ := bd_some (show bd (setV i _) (fun _ => g _) st = some (b, st') from e)
    show wpAny _ _ (do holding _ (bindName p.env x _); assignInOrder (xs.map fun x => bindName p.env x) _) Q E s
    subst hsx
    refine wpAny_bind (wpAny_holding (wpAny_bindName (store_ok hi hw (hv.mono hle) W st s (Le.refl _) I u st1 e1 _ E fun W1 _ s1 x1 I1 _ => ?_)))
    exact h2 p rfl W1 _ _ ((hvs.mono hle).mono x1.le) (by simpa using hl) W1 st1 s1 (Le.refl _) I1 b st' e2 Q E fun W2 v s2 x2 I2 r2 => hQ W2 v s2 (x1.trans x2) I2 r2
noncomputable def swapM (k : Nat) (g : List AV → Cm Unit) : AV → Cm Unit := fun x => match x with
  | .tup xs => if xs.length = k then g xs.reverse else no
  | _ => no
theorem ImplS1.swapped {ts : List Expr} {k : Nat} {tpos : Pos} {value : Expr} {pos : Pos} {names : List Str} {f : Cm AV} {g : List AV → Cm Unit} (h1 : ImplE c n sx value f)
    (hw : swappedStores [.Tuple ts k tpos] value (envS sx.sc) = pure (some names)) (h2 : ImplN c sx names.reverse g)
    (hs : swapsWithSole [.Tuple ts k tpos] value pos.line (envS sx.sc) = pure false := by rfl) :
    ImplS1 c n sx (.Assign [.Tuple ts k tpos] value pos) (asgM f (swapM names.length g)) := by
  intro p hsx hr W0 W st s hle I b st' e Q E hQ
  obtain ⟨x, st1, e1, e2⟩ := bd_some e
  obtain ⟨u, st2, e3, e4⟩ := bd_some e2
  cases e4
  have hsc : p.env.scope = sx.sc := by rw [I.fr.scope, hsx]
  refine Assign_Tuple_swapped (names := names) (h1 p hsx hr W W st s (Le.refl _) I x st1 e1 _ E fun W1 v s1 x1 I1 r1 => ?_) (by rw [swaps_static hsc]; exact hs) (by rw [stores_static hsc]; exact hw)
  cases r1 with
  | @tup a o vs k xs hrole c1 c2 hvs =>
    simp only [swapM] at e3
    split at e3
    · rename_i hl
      have hsz : names.length = vs.toArray.size := by rw [List.size_toArray, hvs.length, hl]
      rw [hsz]
      refine wpAny_unpackItems_tuple hr.1 (I1.hr.isTuple hrole c1 c2) fun h' hx => ?_
      obtain ⟨I', x'⟩ := I1.unext hx
      exact h2 p hsx W1 _ _ hvs.reverse (by simp [hl]) W1 st1 _ (Le.refl _) I' u st' e3 _ E fun W2 _ s2 x2 I2 _ => hQ W2 _ s2 ((x1.trans x').trans x2) I2 .next
    · cases e3
  | _ => cases e3
noncomputable def dropM (f : Cm AV) : Cm AF := bd f fun _ => pu .next
theorem swapsE_static {value : Expr} {line : Nat} {env : Env} {sc : Scope} (h : env.scope = sc) : swapsWith value .none line env = swapsWith value .none line (envS sc) := by
  obtain ⟨scope, locals, globals, cells, qual, func, code, frame, builtins⟩ := env
  dsimp only at h; subst h; rfl
theorem ImplS1.expr {e : Expr} {pos : Pos} {f : Cm AV} (h : ImplE c n sx e f) (hi : interactive (envS sx.sc) = false := by rfl) (hs : swapsWith e .none pos.line (envS sx.sc) = pure false := by rfl) : ImplS1 c n sx (.Expr e pos) (dropM f) := by
  intro p hsx hr W0 W st s hle I b st' e Q E hQ
  obtain ⟨x, st1, e1, e2⟩ := bd_some e
  have hsc : p.env.scope = sx.sc := by rw [I.fr.scope, hsx]
  have hi' : interactive p.env = false := by rw [← hi]; unfold interactive; rw [hsc]; rfl
  refine wpAny_Expr_any (h p hsx hr W W st s (Le.refl _) I x st1 e1 _ E fun W1 v s1 x1 I1 r1 => ?_) hi' (by rw [swapsE_static hsc]; exact hs)
  cases e2; exact hQ W1 _ s1 x1 I1 .next
theorem ImplS1.ite {t : Expr} {a b : List Stmt} {pos : Pos} {ft : Cm Bool} {fa fb : Cm AF} (h0 : ImplT c n sx t ft) (h1 : ImplS c n sx a fa) (h2 : ImplS c n sx b fb) : ImplS1 c n sx (.If t a b pos) (iteM ft fa fb) := by
  intro p hsx hr W0 W st s hle I b st' e Q E hQ
  obtain ⟨x, st1, e1, e2⟩ := bd_some e
  refine wpAny_If (h0 p hsx hr W W st s (Le.refl _) I x st1 e1 _ E fun W1 a s1 x1 I1 r1 => ?_)
  subst r1
  cases a with
  | true => exact h1 p hsx hr W1 W1 st1 s1 (Le.refl _) I1 b st' e2 Q E fun W2 v s2 x2 I2 r2 => hQ W2 v s2 (x1.trans x2) I2 r2
  | false => exact h2 p hsx hr W1 W1 st1 s1 (Le.refl _) I1 b st' e2 Q E fun W2 v s2 x2 I2 r2 => hQ W2 v s2 (x1.trans x2) I2 r2
noncomputable def retM (f : Cm AV) : Cm AF := bd f fun x => pu (.ret x)
theorem ImplS1.ret {e : Expr} {pos : Pos} {f : Cm AV} (h : ImplE c n sx e f) : ImplS1 c n sx (.Return (some e) pos) (retM f) := by
  intro p hsx hr W0 W st s hle I b st' e Q E hQ
  obtain ⟨x, st1, e1, e2⟩ := bd_some e
  cases e2
  exact wpAny_Return_some (h p hsx hr W W st s (Le.refl _) I x st' e1 _ E fun W1 v s1 x1 I1 r1 => hQ W1 _ s1 x1 I1 (.ret r1))
end
end Mine

namespace Mine

section
variable {c : Cx} {n : Nat} {sx : Sx}

noncomputable def frz0 (seg : List (Nat × List AV)) : AV → AV
  | .lob k => (match lookL k seg with | some xs => .lst xs | .none => .lob k)
  | v => v
noncomputable def frzV (seg : List (Nat × List AV)) : AV → AV
  | .tup vs => .tup (vs.map (frz0 seg))
  | v => frz0 seg v
noncomputable def Wd.freeze (W : Wd) (seg : List (Nat × List AV)) (h : Heap) : Wd :=
  { W with role := fun a => match W.role a with
      | .lob k => if (lookL k seg).isSome then (match h.get? a with | some o => .frz o | .none => .oth) else .lob k
      | r => r }
theorem freeze_role {W : Wd} {seg : List (Nat × List AV)} {h : Heap} {a : Addr} (hn : ∀ k, W.role a ≠ .lob k) : (W.freeze seg h).role a = W.role a := by
  unfold Wd.freeze
  dsimp only
  split
  · rename_i k e; exact absurd e (hn k)
  · rfl
theorem freeze_lob {W : Wd} {seg : List (Nat × List AV)} {h : Heap} {a : Addr} {k : Nat} (e : W.role a = .lob k) : (W.freeze seg h).role a = if (lookL k seg).isSome then (match h.get? a with | some o => .frz o | .none => .oth) else .lob k := by
  unfold Wd.freeze
  dsimp only
  rw [e]
theorem Le.freeze (W : Wd) (seg : List (Nat × List AV)) (h : Heap) : Le W (W.freeze seg h) :=
  ⟨Nat.le_refl _, Nat.le_refl _, fun _ _ => rfl, fun _ _ => rfl, fun _ _ => rfl, fun a o e => by rw [freeze_role (by intro k q; rw [e] at q; cases q)]; exact e⟩
theorem lookL_mem {k : Nat} {xs : List AV} : ∀ {seg : List (Nat × List AV)}, lookL k seg = some xs → (k, xs) ∈ seg
  | [], h => by cases h
  | (j, ys) :: r, h => by
    simp only [lookL] at h
    split at h
    · rename_i q; subst q; cases h; exact List.mem_cons_self
    · exact List.mem_cons_of_mem _ (lookL_mem h)
theorem HR.freezeSeg {W : Wd} {st : AS} {h : Heap} {seg : List (Nat × List AV)} {r : LH} (H : HR c W st h) (e : st.lst = seg :: r) : HR c (W.freeze seg h) { st with lst := r } h := by
  have L := Le.freeze W seg h
  refine ⟨H.keep, fun a ha => ?_, fun a => ?_, fun a o ha => ?_, H.ni, H.nl, fun k hk => ?_, fun k i e' => ?_, fun g hg p hp => ?_, ?_⟩
  · rcases Classical.em (∃ k, W.role a = .lob k) with ⟨k, q⟩ | q
    · refine H.mutA a ?_; unfold Wd.Mut; rw [q]; trivial
    · refine H.mutA a ?_; unfold Wd.Mut at ha ⊢; rwa [freeze_role (fun k hk => q ⟨k, hk⟩)] at ha
  · rcases Classical.em (∃ k, W.role a = .lob k) with ⟨k, q⟩ | q
    · rcases H.lt a with z | z
      · rw [q] at z; cases z
      · exact .inr z
    · rw [freeze_role (fun k hk => q ⟨k, hk⟩)]; exact H.lt a
  · rcases Classical.em (∃ k, W.role a = .lob k) with ⟨k, q⟩ | q
    · rw [freeze_lob q] at ha
      split at ha
      · split at ha
        · rename_i o' ho; cases ha; exact ho
        · cases ha
      · cases ha
    · rw [freeze_role (fun k hk => q ⟨k, hk⟩)] at ha; exact H.frz a o ha
  · obtain ⟨r1, r2⟩ := H.iaR k hk
    exact ⟨(freeze_role (a := W.ia k) (by intro j q; rw [r1] at q; cases q)).trans r1, (freeze_role (a := W.da k) (by intro j q; rw [r2] at q; cases q)).trans r2⟩
  · obtain ⟨es, m, e1, e2, r3⟩ := H.insA k i e'
    exact ⟨es, m, e1, e2, r3.mono L⟩
  · obtain ⟨h1, h2, vs, m, h3, h4⟩ := H.lstA g (by rw [e]; exact List.mem_cons_of_mem _ hg) p hp
    refine ⟨h1, ?_, vs, m, h3, h4.mono L⟩
    show (W.freeze seg h).role (W.la p.1) = _
    rw [freeze_lob h2, if_neg]
    intro q
    obtain ⟨ys, hy⟩ := Option.isSome_iff_exists.mp q
    have nd := H.nodup
    rw [e, List.flatten_cons, List.map_append] at nd
    exact (List.nodup_append.mp nd).2.2 p.1 (List.mem_map.mpr ⟨_, lookL_mem hy, rfl⟩) p.1 (List.mem_map.mpr ⟨p, List.mem_flatten.mpr ⟨g, hg, hp⟩, rfl⟩) rfl
  · have nd := H.nodup
    rw [e, List.flatten_cons, List.map_append] at nd
    exact (List.nodup_append.mp nd).2.1
theorem frz0_ok {W : Wd} {st : AS} {h : Heap} {seg : List (Nat × List AV)} {r : LH} (H : HR c W st h) (e : st.lst = seg :: r) {val : Value} {v : AV} (hv : VR W val v) : VR (W.freeze seg h) val (frz0 seg v) := by
  have L := Le.freeze W seg h
  cases hv with
  | lob k hk =>
    simp only [frz0]
    split
    · rename_i xs hx
      obtain ⟨h1, h2, vs, m, h3, h4⟩ := H.lstA seg (by rw [e]; exact List.mem_cons_self) _ (lookL_mem hx)
      refine .lst (n := m) (vs := vs) ?_ (h4.mono L)
      dsimp only at h2 h3
      rw [freeze_lob h2, hx, h3]; rfl
    · exact (VR.lob k hk).mono L
  | none => exact .none
  | bool b => exact .bool b
  | int i t => exact .int i t
  | str x t => exact .str x t
  | bytes x t => exact .bytes x t
  | val _ hu => exact .val _ hu
  | ins k hk => exact (VR.ins k hk).mono L
  | lst h1 h2 => exact (VR.lst h1 h2).mono L
  | tup h1 h2 h3 h4 => exact (VR.tup h1 h2 h3 h4).mono L
  | lsb h1 h2 h3 h4 => exact (VR.lsb h1 h2 h3 h4).mono L
theorem frzV_ok {W : Wd} {st : AS} {h : Heap} {seg : List (Nat × List AV)} {r : LH} (H : HR c W st h) (e : st.lst = seg :: r) {val : Value} {v : AV} (hv : VR W val v) : VR (W.freeze seg h) val (frzV seg v) := by
  cases hv with
  | @tup _ _ vs m xs h1 h3 h4 h2 =>
    refine .tup ((Le.freeze W seg h).frz _ _ h1) h3 h4 ?_
    clear h1 h3 h4
    induction vs generalizing xs with
    | nil => cases h2; exact .nil
    | cons u us ih => cases h2 with | cons a b => exact .cons (frz0_ok H e a) (ih b)
  | none => exact frz0_ok H e .none
  | bool b => exact frz0_ok H e (.bool b)
  | int i t => exact frz0_ok H e (.int i t)
  | str x t => exact frz0_ok H e (.str x t)
  | bytes x t => exact frz0_ok H e (.bytes x t)
  | val _ hu => exact frz0_ok H e (.val _ hu)
  | ins k hk => exact frz0_ok H e (.ins k hk)
  | lob k hk => exact frz0_ok H e (.lob k hk)
  | lst h1 h2 => exact frz0_ok H e (.lst h1 h2)
  | lsb h1 h2 h3 h4 => exact frz0_ok H e (.lsb h1 h2 h3 h4)
noncomputable def ImplF (c : Cx) (n : Nat) (fa : Addr) (F : List AV → Cm AV) : Prop :=
  ∀ (A : Around) (W : Wd) (st : AS) (s : Shared), Room n A → HR c W st s.heap → ∀ vs xs, VRs W vs xs → ∀ v st', F xs st = some (v, st') →
    ∀ R : Result → Shared → Prop, (∀ W' val s', Ext (fun _ => False) W s W' s' → HR c W' st' s'.heap → VR W' val v → R (.ok (.ret val)) s') → codeAny (model c.prog c.w) A (.call (.ref fa) ⟨vs, []⟩) R s
noncomputable def endFn (loc : List AV) (v : AV) : Cm AV := fun st => match st.lst with
  | seg :: r => some (frzV seg v, { st with lst := r, loc := loc })
  | [] => .none
noncomputable def runFnG (fin : List AV → AV → Cm AV) (k m : Nat) (g : Cm AF) (xs : List AV) : Cm AV := fun st =>
  if xs.length = k then
    match g { st with loc := xs ++ List.replicate m .unb, lst := [] :: st.lst } with
    | some (.ret v, st1) => fin st.loc v st1
    | some (.next, st1) => fin st.loc .none st1
    | .none => .none
  else .none
noncomputable def FinOk (c : Cx) (fin : List AV → AV → Cm AV) : Prop := ∀ (W : Wd) (st st' : AS) (h : Heap) (loc : List AV) (u v : AV) (val : Value), fin loc u st = some (v, st') → HR c W st h → VR W val u →
  ∃ W', Le W W' ∧ HR c W' st' h ∧ VR W' val v ∧ ∀ a, W.role a = .oth → W'.role a = .oth
noncomputable def runFn (k m : Nat) (g : Cm AF) (xs : List AV) : Cm AV := runFnG endFn k m g xs
theorem ImplF.sub {fa : Addr} {F F' : List AV → Cm AV} (h : ImplF c n fa F) (k : ∀ xs st b st', F' xs st = some (b, st') → F xs st = some (b, st')) : ImplF c n fa F' :=
  fun A W st s hr H vs xs hv v st' e R hR => h A W st s hr H vs xs hv v st' (k _ _ _ _ e) R hR
theorem bindL_skip {kindOf : Str → Option NameKind} {x : Str} : ∀ {b : List (Str × Value)} {m : Str → Option Value}, (∀ y ∈ b, y.1 ≠ x) → bindL kindOf b m x = m x
  | [], _, _ => rfl
  | (y, v) :: r, m, h => by
    unfold bindL
    rw [bindL_skip (fun z hz => h z (List.mem_cons_of_mem _ hz))]
    split
    · exact if_neg (Ne.symm (h (y, v) List.mem_cons_self))
    · rfl
theorem bindL_get {kindOf : Str → Option NameKind} {x : Str} (hk : kindOf x = some .local) : ∀ {names : List Str} {vals : List Value} {m : Str → Option Value} {i : Nat} {v : Value}, names.Nodup → names[i]? = some x → vals[i]? = some v → bindL kindOf (names.zip vals) m x = some v
  | [], _, _, i, _, _, h, _ => by simp at h
  | _ :: _, [], _, i, _, _, _, h => by simp at h
  | y :: ys, u :: us, m, i, v, hn, hx, hv => by
    obtain ⟨h1, h2⟩ := List.nodup_cons.mp hn
    rw [List.zip_cons_cons]
    unfold bindL
    cases i with
    | zero =>
      simp at hx hv
      subst hx hv
      rw [bindL_skip (fun z hz q => h1 (by have := (List.of_mem_zip (show (z.1, z.2) ∈ _ from hz)).1; rwa [q] at this)), if_pos hk]
      exact if_pos rfl
    | succ i =>
      simp at hx hv
      exact bindL_get hk h2 hx hv
theorem bindC_skip {kindOf : Str → Option NameKind} {x : Str} : ∀ {b : List (Str × Value)} {m : Str → Option Value}, (∀ y ∈ b, y.1 ≠ x) → bindC kindOf b m x = m x
  | [], _, _ => rfl
  | (y, v) :: r, m, h => by
    unfold bindC
    rw [bindC_skip (fun z hz => h z (List.mem_cons_of_mem _ hz))]
    split
    · rfl
    · exact if_neg (Ne.symm (h (y, v) List.mem_cons_self))
theorem bindC_get {kindOf : Str → Option NameKind} {x : Str} (hk : kindOf x ≠ some .local) : ∀ {names : List Str} {vals : List Value} {m : Str → Option Value} {i : Nat} {v : Value}, names.Nodup → names[i]? = some x → vals[i]? = some v → bindC kindOf (names.zip vals) m x = some v
  | [], _, _, i, _, _, h, _ => by simp at h
  | _ :: _, [], _, i, _, _, _, h => by simp at h
  | y :: ys, u :: us, m, i, v, hn, hx, hv => by
    obtain ⟨h1, h2⟩ := List.nodup_cons.mp hn
    rw [List.zip_cons_cons]
    unfold bindC
    cases i with
    | zero =>
      simp at hx hv
      subst hx hv
      rw [bindC_skip (fun z hz q => h1 (by have := (List.of_mem_zip (show (z.1, z.2) ∈ _ from hz)).1; rwa [q] at this)), if_neg hk]
      exact if_pos rfl
    | succ i =>
      simp at hx hv
      exact bindC_get hk h2 hx hv
theorem mem_filterMap_lookup {cs : List (Str × Addr)} {vars : List Str} {a : Addr} (h : a ∈ vars.filterMap fun x => cs.lookup x) : ∃ x, cs.lookup x = some a := by
  obtain ⟨x, _, e⟩ := List.mem_filterMap.mp h; exact ⟨x, e⟩
structure FnIs (c : Cx) (fa : Addr) (fd : FuncData) (body : List Stmt) (names others : List Str) : Prop where
  at_ : ∃ oc od osl, c.K.lookup fa = some ⟨oc, od, .func fd, osl⟩
  body : fd.body = .stmts body
  clo : fd.closure = []
  globals : fd.globals = mainGlobals
  builtins : fd.builtins = builtinsNs
  code : codeIn c.K fd.code fd.qualname = true
  co : fd.scope.isCoroutine = false
  gen : fd.scope.isGenerator = false
  kind : fd.scope.kind = .function
  bind : ∀ vals : List Value, vals.length = names.length → bindArgs fd ⟨vals, []⟩ = pure (names.zip vals)
  kinds : ((names ++ others).all fun x => fd.scope.names.lookup x == some .local || fd.scope.names.lookup x == some .cell) = true
  nodup : (names ++ others).Nodup
theorem fn_okG (G : Gd c) {fa : Addr} {fd : FuncData} {body : List Stmt} {names others : List Str} {g : Cm AF} {fnl : List AV → AV → Cm AV} (FO : FinOk c fnl) (D : FnIs c fa fd body names others)
    (hS : ImplS c n ⟨fd.scope, names ++ others, names ++ others⟩ body g) : ImplF c (n + 1) fa (runFnG fnl names.length others.length g) := by
  intro A W st s hr H vs xs hv v st' e R hR
  obtain ⟨oc, od, osl, hK⟩ := D.at_
  have ho := H.keep _ _ (G.inK _ _ hK)
  unfold runFnG at e
  by_cases hlen : xs.length = names.length
  case neg => rw [if_neg hlen] at e; cases e
  rw [if_pos hlen] at e
  have hlv : vs.length = names.length := by rw [hv.length, hlen]
  have hkinds : ∀ x, x ∈ names ++ others → fd.scope.names.lookup x = some .local ∨ fd.scope.names.lookup x = some .cell := fun x hx => by
    have := List.all_eq_true.mp D.kinds x hx
    simpa using this
  have hcell : ∀ x, x ∈ names ++ others → fd.scope.names.lookup x = some .cell → ∀ m, ((cellsFrom m fd.scope.names []).lookup x).isSome = true := fun x _ hx m => cellsFrom_some _ _ _ (.inl hx)
  refine codeAny_call_cells hr.depth ho rfl (G.nolimit.keeps H.keep) (codeRec_of (K := c.K) (fun a o q => H.keep _ _ (G.inK a o q)) D.code) D.body (D.bind vs hlv) D.clo ?_ (fun s1 x1 => ?_) D.co D.gen D.kind
  · intro x hx
    have hm := (List.of_mem_zip (show (x.1, x.2) ∈ names.zip vs from hx)).1
    rcases hkinds x.1 (List.mem_append_left _ hm) with q | q
    · exact .inl q
    · exact .inr ⟨q, hcell _ (List.mem_append_left _ hm) q _⟩
  · -- the new frame
    let env := callEnvC fd s.heap.objs.size fa
    let p : Pl := ⟨A.deeper env, ⟨fd.scope, names ++ others, names ++ others⟩, env, (names ++ others).filterMap fun x => env.cells.lookup x⟩
    have hL : env.locals = s.heap.objs.size := rfl
    have hnL : s.heap.get? s.heap.objs.size = .none := get_none_of_ge (Nat.le_refl _)
    have hnC : ∀ y a, env.cells.lookup y = some a → s.heap.get? a = .none := fun y a q => get_none_of_ge (Nat.le_of_lt (x1.above y a (mem_of_lookup q)))
    obtain ⟨h1, tk1, rfl⟩ := x1.toInCall.same
    have k1 := x1.toInCall.keep
    have I1 : Inv c p W { st with loc := xs ++ List.replicate others.length .unb, lst := [] :: st.lst } { s with heap := h1, toks := tk1 } := by
      refine ⟨⟨fun a o q => k1 _ _ (H.keep a o q), H.mutA, fun a => (H.lt a).imp id fun ⟨o, q⟩ => ⟨o, k1 a o q⟩, fun a o q => k1 _ _ (H.frz a o q), H.ni, H.nl, H.iaR, fun k i q => ?_, fun gg hg pp hp => ?_, ?_⟩, ?_⟩
      · obtain ⟨es, m, e1, e2, r⟩ := H.insA k i q
        exact ⟨es, m, k1 _ _ e1, k1 _ _ e2, r⟩
      · rcases List.mem_cons.mp hg with q | hg
        · subst q; cases hp
        · obtain ⟨q1, q2, us, m, q3, q4⟩ := H.lstA gg hg pp hp
          exact ⟨q1, q2, us, m, k1 _ _ q3, q4⟩
      · show ((([] : List (Nat × List AV)) ++ st.lst.flatten).map (·.1)).Nodup
        exact H.nodup
      · refine ⟨⟨_, x1.toInCall.ns, fun i x u a1 a2 a3 a4 => ?_⟩, fun i x u a1 a2 a3 a4 => ?_, fun y a q => ⟨_, x1.cell y a q⟩, fun x hx hk => ?_, hkinds, x1.apart, fun a ha => mem_filterMap_lookup ha, H.oth_of_none hnL, fun y a q => ⟨H.oth_of_none (hnC y a q), Nat.ne_of_gt (x1.above y a (mem_of_lookup q)), H.base_none (hnC y a q)⟩, H.base_none hnL, rfl, D.kind, D.globals, D.builtins, D.nodup⟩
        · have hi : i < names.length := by
            rcases Nat.lt_or_ge i names.length with q | q
            · exact q
            · exfalso
              rw [List.getElem?_append_right (by omega)] at a2
              rw [List.getElem?_replicate] at a2
              split at a2
              · cases a2; exact a3 rfl
              · cases a2
          rw [List.getElem?_append_left hi] at a1
          rw [List.getElem?_append_left (by omega)] at a2
          obtain ⟨w, b1, b2⟩ := hv.get a2
          exact ⟨w, bindL_get a4 (List.nodup_append.mp D.nodup).1 a1 b1, b2⟩
        · have hi : i < names.length := by
            rcases Nat.lt_or_ge i names.length with q | q
            · exact q
            · exfalso
              rw [List.getElem?_append_right (by omega)] at a2
              rw [List.getElem?_replicate] at a2
              split at a2
              · cases a2; exact a3 rfl
              · cases a2
          rw [List.getElem?_append_left hi] at a1
          rw [List.getElem?_append_left (by omega)] at a2
          obtain ⟨w, b1, b2⟩ := hv.get a2
          obtain ⟨a, q⟩ := Option.isSome_iff_exists.mp (hcell x (List.mem_append_left _ (List.mem_of_getElem? a1)) a4 (s.heap.objs.size + 1))
          have := x1.cell x a q
          rw [bindC_get (by rw [a4]; intro z; cases z) (List.nodup_append.mp D.nodup).1 a1 b1] at this
          exact ⟨w, a, q, this, b2⟩
        · obtain ⟨a, q⟩ := Option.isSome_iff_exists.mp (hcell x hx hk (s.heap.objs.size + 1))
          exact ⟨a, q, fun _ => List.mem_filterMap.mpr ⟨x, hx, q⟩⟩
    have hown : ∀ a, p.Own a → s.heap.get? a = .none := fun a ha => by
      rcases ha with rfl | ha
      · exact hnL
      · obtain ⟨x, q⟩ := mem_filterMap_lookup ha; exact hnC x a q
    have fin : ∀ (fl : Flow) (u : AV) (st1 : AS), fnl st.loc u st1 = some (v, st') →
        ∀ W1 s2, Ext p.Own W { s with heap := h1, toks := tk1 } W1 s2 → Inv c p W1 st1 s2 → VR W1 (match fl with | .ret w => w | _ => .none) u → R (.ok (.ret (match fl with | .ret w => w | _ => .none))) s2 := by
      intro fl u st1 e' W1 s2 x2 I2 r2
      obtain ⟨W2, l2, h2, r3, o2⟩ := FO W1 st1 st' s2.heap st.loc u v _ e' I2.hr r2
      exact hR W2 _ s2 ⟨x2.le.trans l2, fun a o q => x2.alive a o (k1 a o q), fun a o q z => o2 a (x2.oth a o (k1 a o q) z), fun a o hm _ q => x2.kept a o hm (fun z => by rw [hown a z] at q; cases q) (k1 a o q), x2.gens, x2.os⟩ h2 r3
    have body := hS p rfl (hr.deeper env) W W _ _ (Le.refl _) I1
    refine wpAny_noRaise ?_
    split at e
    · rename_i u st1 hg
      refine body _ _ hg _ _ fun W1 fl s2 x2 I2 r2 => ?_
      cases r2 with
      | ret r2 => exact fin (.ret _) u st1 e W1 s2 x2 I2 r2
    · rename_i st1 hg
      refine body _ _ hg _ _ fun W1 fl s2 x2 I2 r2 => ?_
      cases r2 with
      | next => exact fin .next .none st1 e W1 s2 x2 I2 .none
    · cases e
theorem endFn_ok : FinOk c endFn := by
  intro W st st' h loc u v val e H r
  unfold endFn at e
  split at e
  · rename_i seg r' hseg
    cases e
    exact ⟨W.freeze seg h, Le.freeze .., (H.freezeSeg hseg).loc _, frzV_ok H hseg r, fun a z => by rw [freeze_role (by intro k zz; rw [z] at zz; cases zz)]; exact z⟩
  · cases e
theorem fn_ok (G : Gd c) {fa : Addr} {fd : FuncData} {body : List Stmt} {names others : List Str} {g : Cm AF} (D : FnIs c fa fd body names others)
    (hS : ImplS c n ⟨fd.scope, names ++ others, names ++ others⟩ body g) : ImplF c (n + 1) fa (runFn names.length others.length g) := fn_okG G endFn_ok D hS
noncomputable def OkCall (c : Cx) (n : Nat) (f : Value) (F : List AV → Cm AV) : Prop := ∀ p : Pl, Room n p.A → ∀ W0 vs xs, VRs W0 vs xs → Ok c p W0 (call f vs) VR (F xs)
noncomputable def callM (F : List AV → Cm AV) (xs : List AV) : Cm AV := fun st => match F xs st with
  | some (v, st') => some (v, { st' with loc := st.loc })
  | .none => .none
theorem ImplF.call {fa : Addr} {F : List AV → Cm AV} (h : ImplF c n fa F) : OkCall c n (.ref fa) (callM F) := by
  intro p hr W0 vs xs hv W st s hle I b st' e Q E hQ
  unfold callM at e
  split at e
  · rename_i v st1 hF
    cases e
    refine wpAny_call (h p.A W st s hr I.hr vs xs (hv.mono hle) _ _ hF _ fun W' val s' x H r => ?_)
    exact hQ W' val s' (x.weaken fun _ q => q.elim) ⟨H.loc _, I.fr.ext x (fun q => q) fun _ _ _ q => q⟩ r
  · cases e
theorem evalArgs_row {M : Model} {A : Around} {E : Value → Shared → Prop} {s : Shared} {f : Value} {env : Env} {pos : Pos} {es : List Expr} {Q : Args → Shared → Prop} (hp : es.all plainX = true)
    (h : wpAny M A (spliced (backTo pos (starEach es env))) (fun vs s' => Q ⟨vs, []⟩ s') E s) : wpAny M A (evalArgs f true (backTo pos (starEach es env)) []) Q E s := by
  cases es with
  | nil =>
    unfold evalArgs
    show wpAny M A (spliced [] >>= _) Q E s
    exact wpAny_bind (wpAny_mono h (fun vs s' h' => wpAny_bind (wpAny_pure (wpAny_holding (wpAny_bind (wpAny_pure (wpAny_bind (wpAny_pure (wpAny_pure h')))))))) fun _ _ x => x)
  | cons e r =>
    have he : plainX e = true := (Bool.and_eq_true_iff.mp (List.all_cons ▸ hp)).1
    rw [star_plain he] at h ⊢
    exact Calls.evalArgs_plain h
theorem any_false {es : List Expr} {env : Env} {pos : Pos} (hp : es.all plainX = true) : (backTo pos (starEach es env)).any (·.1) = false := by
  induction es with
  | nil => rfl
  | cons e r ih =>
    obtain ⟨h1, h2⟩ := Bool.and_eq_true_iff.mp (List.all_cons ▸ hp)
    rw [star_plain h1]
    show (false || (backTo pos (starEach r env)).any (·.1)) = false
    rw [ih h2]; rfl
theorem ImplE.callFn (G : Gd c) {x : Str} {p0 pos : Pos} {es : List Expr} {fa : Addr} {fs : Cm (List AV)} {F : List AV → Cm AV} (hx : sx.sc.names.lookup x = some .globalImplicit) (hg : c.Glob x (.ref fa))
    (hfn : ∃ oc od fd osl, c.K.lookup fa = some ⟨oc, od, .func fd, osl⟩) (h1 : ImplEs c n sx es fs) (h2 : ImplF c n fa F) (hd : (x == ("__debug__" : Str)) = false := by decide) (hp : es.all plainX = true := by rfl) :
    ImplE c n sx (.Call (.Name x p0) es [] pos) (bd fs (callM F)) := by
  intro p hsx hr W0 W st s hle I b st' e Q E hQ
  obtain ⟨xs, st1, e1, e2⟩ := bd_some e
  obtain ⟨oc, od, fd, osl, hK⟩ := hfn
  refine Call_ (load_glob G I (by rw [hsx]; exact hx) hg hd ?_)
  refine Calls.callWith_function (o := ⟨oc, od, .func fd, osl⟩) (fd := fd) (evalArgs_row hp ?_)
  refine h1 p hsx hr W pos W st s (Le.refl _) I xs st1 e1 _ E fun W1 vs s1 x1 I1 r1 => ?_
  refine ⟨⟨I1.hr.keep _ _ (G.inK _ _ hK), rfl⟩, ?_⟩
  exact h2.call p hr W1 vs xs r1 W1 st1 s1 (Le.refl _) I1 b st' e2 Q E fun W2 v s2 x2 I2 r2 => hQ W2 v s2 (x1.trans x2) I2 r2
theorem ImplE.callB (G : Gd c) {x : Str} {p0 pos : Pos} {es : List Expr} {id : String} {fs : Cm (List AV)} {F : List AV → Cm AV} (hx : sx.sc.names.lookup x = some .globalImplicit) (hg : c.Glob x (.builtin id))
    (h1 : ImplEs c n sx es fs) (h2 : OkCall c n (.builtin id) F) (hd : (x == ("__debug__" : Str)) = false := by decide) (hp : es.all plainX = true := by rfl) :
    ImplE c n sx (.Call (.Name x p0) es [] pos) (bd fs F) := by
  intro p hsx hr W0 W st s hle I b st' e Q E hQ
  obtain ⟨xs, st1, e1, e2⟩ := bd_some e
  refine Call_ (load_glob G I (by rw [hsx]; exact hx) hg hd ?_)
  refine Calls.callWith_builtin (any_false hp) (evalArgs_row hp ?_)
  refine h1 p hsx hr W pos W st s (Le.refl _) I xs st1 e1 _ E fun W1 vs s1 x1 I1 r1 => ?_
  exact h2 p hr W1 vs xs r1 W1 st1 s1 (Le.refl _) I1 b st' e2 Q E fun W2 v s2 x2 I2 r2 => hQ W2 v s2 (x1.trans x2) I2 r2
theorem ImplE.callT (G : Gd c) {x : Str} {p0 pos : Pos} {es : List Expr} {T : String} {fs : Cm (List AV)} {F : List AV → Cm AV} (hx : sx.sc.names.lookup x = some .globalImplicit) (hg : c.Glob x (.type T))
    (h1 : ImplEs c n sx es fs) (h2 : OkCall c n (.type T) F) (hd : (x == ("__debug__" : Str)) = false := by decide) (hp : es.all plainX = true := by rfl) :
    ImplE c n sx (.Call (.Name x p0) es [] pos) (bd fs F) := by
  intro p hsx hr W0 W st s hle I b st' e Q E hQ
  obtain ⟨xs, st1, e1, e2⟩ := bd_some e
  refine Call_ (load_glob G I (by rw [hsx]; exact hx) hg hd ?_)
  refine PyProof.Rows.callWith_type (any_false hp) (evalArgs_row hp ?_)
  refine h1 p hsx hr W pos W st s (Le.refl _) I xs st1 e1 _ E fun W1 vs s1 x1 I1 r1 => ?_
  exact h2 p hr W1 vs xs r1 W1 st1 s1 (Le.refl _) I1 b st' e2 Q E fun W2 v s2 x2 I2 r2 => hQ W2 v s2 (x1.trans x2) I2 r2
end
end Mine

namespace Mine

structure Cls (c : Cx) : Prop where
  makes : makesIn c.K c.C = true
  ga : findIn c.K (.ref c.C) "__getattribute__" = some (some (.builtin "object.__getattribute__"))
  gat : findIn c.K (.ref c.C) "__getattr__" = some .none
  sa : findIn c.K (.ref c.C) "__setattr__" = some (some (.builtin "object.__setattr__"))
  plain : plainOver c.K c.C = true
  hasDict : hasDictIn c.K c.C = true
  fields : ∀ f : Fd, findIn c.K (.ref c.C) (fkey f) = some .none
  keep : keepIn c.K (.ref c.C) = true
section
variable {c : Cx} {n : Nat} {sx : Sx}

theorem HR.inK (G : Gd c) {W : Wd} {st : AS} {h : Heap} (H : HR c W st h) : c.K.In h := fun a o e => H.keep a o (G.inK a o e)
theorem HR.instAt {W : Wd} {st : AS} {h : Heap} (H : HR c W st h) {k : Nat} {i : Ins} (e : st.ins[k]? = some i) : ∃ es m, InstAt h (W.ia k) (instObj c.C (W.da k)) c.C (some (dictOf es m)) ∧ FieldsAre W es i := by
  obtain ⟨es, m, e1, e2, r⟩ := H.insA k i e
  exact ⟨es, m, ⟨e1, rfl, rfl, e2⟩, r⟩
theorem set_raw (C : Cls c) {A : Around} {E : Value → Shared → Prop} {s : Shared} {x d : Addr} {es : List DictEntry} {m : Nat} {name : Str} {v : Value} {Q : Unit → Shared → Prop} (X : c.K.In s.heap)
    (I : InstAt s.heap x (instObj c.C d) c.C (some (dictOf es m))) (hf : findIn c.K (.ref c.C) name = some .none) (hl : (PySem.W.getL name es).isSome = true) (hz : (PySem.W.putL name (PyData.keyHash c.w.params name) (.str name (s.toks + 1)) v es).length ≤ 1000)
    (h : ∀ h', h'.get? d = some (dictOf (PySem.W.putL name (PyData.keyHash c.w.params name) (.str name (s.toks + 1)) v es) (putN name es m)) → Heap.SameBut d s.heap h' → Q () { s with heap := h', toks := s.toks + 2 }) :
    wpAny (model c.prog c.w) A (setAttr (.ref x) name v) Q E s := by
  refine set_plain X I C.sa ?_
  refine osa_open (s := { s with toks := s.toks + 1 }) X I C.plain (r := .none) (by unfold takerIn; rw [hf]; rfl) fun b => ?_
  obtain ⟨cd, hc, hd'⟩ := any_some C.hasDict
  have D : s.heap.get? d = some (dictOf es m) := I.dict
  have D' : (s.heap.update d (Obj.putName name (PyData.keyHash c.w.params name) (.str name (s.toks + 1)) v)).get? d = some (dictOf (PySem.W.putL name (PyData.keyHash c.w.params name) (.str name (s.toks + 1)) v es) (putN name es m)) := by
    rw [← putName_dict]
    exact Heap.get?_update_self _ D (by rw [putName_dict]; rfl)
  refine wpAny_bind (wpAny_pure (wpAny_bind (wpAny_bind (wpAny_loadPart I.at_ (wpAny_bind (looks_clsIn X hc _ _ _ _ (fun _ _ e => e) ?_))))))
  rw [hd']
  refine wpAny_pure (a := some d) (wpAny_bind (wpAny_pure (wpAny_bind ?_)))
  unfold nsSet
  refine wpAny_bind (wpAny_bind (wpAny_askSetting (wpAny_pure (wpAny_bind (wpAny_mkText (wpAny_bind (wpAny_loadPart D ?_)))))))
  dsimp only
  have cc : (!es.toArray.any (·.key.isStr name) && es.toArray.any (·.refKey)) = false := by
    rw [← Array.any_toList, ← Array.any_toList]
    unfold PySem.W.getL at hl
    split at hl
    · rename_i en he
      rw [List.any_eq_true.mpr ⟨en, List.mem_of_find?_eq_some he, List.find?_some he⟩]; rfl
    · split at hl
      · cases hl
      · rename_i z; rw [Bool.not_eq_true] at z; rw [z, Bool.and_false]
  rw [aRefKeyMayBeTheName_at, cc]
  refine wpAny_updatePart D ?_
  refine wpAny_bind (wpAny_lookBehind D' (pastItsLine_dict (by rw [List.size_toArray, sizeLine_eq]; omega)) ?_)
  exact wpAny_pure (h _ D' (Heap.SameBut.update ..))
noncomputable def attrM (f : Fd) : AV → Cm AV := fun o => match o with
  | .ins k => fun st => (match st.ins[k]? with | some i => some (i.get f, st) | .none => .none)
  | _ => no
noncomputable def putM (f : Fd) : AV → AV → Cm Unit := fun o v => match o with
  | .ins k => fun st => (match st.ins[k]? with | some i => some ((), { st with ins := st.ins.set k (i.put v f) }) | .none => .none)
  | _ => no
theorem attr_ok (G : Gd c) (C : Cls c) {p : Pl} {W0 : Wd} {f : Fd} {o : Value} {x : AV} (hv : VR W0 o x) : Ok c p W0 (getAttr o (fkey f) true) VR (attrM f x) := by
  intro W st s hle I b st' e Q E hQ
  cases hv.mono hle with
  | ins k hk =>
    simp only [attrM] at e
    split at e
    · rename_i i hi
      cases e
      obtain ⟨es, m, J, r⟩ := I.hr.instAt hi
      obtain ⟨v, hl, rv⟩ := r.get f
      refine get_value (I.hr.inK G) J C.ga (findObj_own C.hasDict (C.fields f) rfl hl) rv.handed ?_
      exact hQ W v _ ((Ext.refl ..).toks _) (I.toks _) rv
    · cases e
  | _ => cases e
theorem HR.dct {W : Wd} {st : AS} {h h' : Heap} {k : Nat} {i : Ins} {es : List DictEntry} {m : Nat} (H : HR c W st h) (hi : ∃ i0, st.ins[k]? = some i0) (hd : h'.get? (W.da k) = some (dictOf es m)) (hs : Heap.SameBut (W.da k) h h') (hf : FieldsAre W es i) :
    HR c W { st with ins := st.ins.set k i } h' := by
  obtain ⟨i0, hi⟩ := hi
  have hk : k < W.ni := by rw [H.ni]; exact (List.getElem?_eq_some_iff.mp hi).1
  obtain ⟨r1, r2⟩ := H.iaR k hk
  have hm : W.Mut (W.da k) := by unfold Wd.Mut; rw [r2]; trivial
  have kp : ∀ a o, a ≠ W.da k → h.get? a = some o → h'.get? a = some o := fun a o ha e => hs.extBut a o ha e
  refine ⟨fun a o e => kp a o (fun q => ?_) (H.keep a o e), H.mutA, fun a => ?_, fun a o e => kp a o (fun q => ?_) (H.frz a o e), ?_, H.nl, H.iaR, fun j y e => ?_, fun g hg q hq => ?_, H.nodup⟩
  · rw [q, H.mutA _ hm] at e; cases e
  · rcases Classical.em (a = W.da k) with q | q
    · subst q; exact .inr ⟨_, hd⟩
    · exact (H.lt a).imp id fun ⟨o, z⟩ => ⟨o, kp a o q z⟩
  · rw [q, r2] at e; cases e
  · show W.ni = (st.ins.set k i).length; rw [List.length_set]; exact H.ni
  · have e' : (st.ins.set k i)[j]? = some y := e
    rw [List.getElem?_set] at e'
    by_cases hkj : k = j
    · subst hkj
      rw [if_pos rfl] at e'
      split at e'
      · cases e'
        obtain ⟨es0, m0, e1, e2, _⟩ := H.insA k i0 hi
        exact ⟨es, m, kp _ _ (fun q => by rw [q, r2] at r1; cases r1) e1, hd, hf⟩
      · cases e'
    · rw [if_neg hkj] at e'
      obtain ⟨es0, m0, e1, e2, r⟩ := H.insA j y e'
      have hj : j < W.ni := by rw [H.ni]; exact (List.getElem?_eq_some_iff.mp e').1
      obtain ⟨s1, s2⟩ := H.iaR j hj
      exact ⟨es0, m0, kp _ _ (fun q => by rw [q, r2] at s1; cases s1) e1, kp _ _ (fun q => by rw [q, r2] at s2; cases s2; exact hkj rfl) e2, r⟩
  · obtain ⟨h1, h2, vs, m0, h3, h4⟩ := H.lstA g hg q hq
    exact ⟨h1, h2, vs, m0, kp _ _ (fun z => by rw [z, r2] at h2; cases h2) h3, h4⟩
theorem Ext.change {own : Addr → Prop} {W : Wd} {s : Shared} {a : Addr} {h' : Heap} {tk : Nat} (hm : W.Mut a) (hs : Heap.SameBut a s.heap h') (ha : ∃ o, h'.get? a = some o) : Ext own W s W { s with heap := h', toks := tk } :=
  ⟨Le.refl W, fun b o e => by
      rcases Classical.em (b = a) with q | q
      · subst q; exact ha
      · exact ⟨o, hs.extBut b o q e⟩,
    fun _ _ _ e => e, fun b o hb _ e => hs.extBut b o (fun q => hb (q ▸ hm)) e, rfl, rfl⟩
theorem FrV.change {p : Pl} {W : Wd} {loc : List AV} {h h' : Heap} {a : Addr} (F : FrV c p W loc h) (hm : W.Mut a) (hs : Heap.SameBut a h h') : FrV c p W loc h' :=
  F.grow fun b o hb e => hs.extBut b o (fun q => by
    subst q
    rcases hb with hb | ⟨x, hb⟩
    · unfold Wd.Mut at hm; rw [hb, F.roleL] at hm; exact hm
    · unfold Wd.Mut at hm; rw [(F.roleC x b hb).1] at hm; exact hm) e
theorem put_ok (G : Gd c) (C : Cls c) {p : Pl} {W0 : Wd} {f : Fd} {o val : Value} {x v : AV} (ho : VR W0 o x) (hv : VR W0 val v) : Ok c p W0 (setAttr o (fkey f) val) (fun _ _ _ => True) (putM f x v) := by
  intro W st s hle I b st' e Q E hQ
  cases ho.mono hle with
  | ins k hk =>
    simp only [putM] at e
    split at e
    · rename_i i hi
      cases e
      obtain ⟨es, m, J, r⟩ := I.hr.instAt hi
      obtain ⟨v0, hl, _⟩ := r.get f
      have hm : W.Mut (W.da k) := by unfold Wd.Mut; rw [(I.hr.iaR k hk).2]; trivial
      have r' := r.put f (hv.mono hle) (PyData.keyHash c.w.params (fkey f)) (.str (fkey f) (s.toks + 1))
      refine set_raw C (I.hr.inK G) J (C.fields f) (by rw [hl]; rfl) (by rw [r'.len]; decide) fun h' hd hs => ?_
      exact hQ W () _ (Ext.change hm hs ⟨_, hd⟩) ⟨I.hr.dct ⟨i, hi⟩ hd hs r', I.fr.change hm hs⟩ trivial
    · cases e
  | _ => cases e
theorem ImplE.attr (G : Gd c) (C : Cls c) {o : Expr} {pos : Pos} {f : Fd} {g : Cm AV} (h : ImplE c n sx o g) (hb : ∀ env t, attributeBase o (fkey f) env t = t := by intro _ _; rfl) : ImplE c n sx (.Attribute o (fkey f) pos) (bd g (attrM f)) := by
  intro p hsx hr W0 W st s hle I b st' e Q E hQ
  obtain ⟨x, st1, e1, e2⟩ := bd_some e
  refine Attribute_any_ (h p hsx hr W W st s (Le.refl _) I x st1 e1 _ E fun W1 v s1 x1 I1 r1 => ?_) (by rw [arm_eval_Attribute, hb])
  exact attr_ok G C r1 W1 st1 s1 (Le.refl _) I1 b st' e2 Q E fun W2 v s2 x2 I2 r2 => hQ W2 v s2 (x1.trans x2) I2 r2
theorem ImplA.attr (G : Gd c) (C : Cls c) {o : Expr} {pos : Pos} {f : Fd} {g : Cm AV} (h : ImplE c n sx o g) : ImplA c n sx (.Attribute o (fkey f) pos) (fun v => bd g fun x => putM f x v) := by
  intro p hsx hr W0 val v hv W st s hle I b st' e Q E hQ
  obtain ⟨x, st1, e1, e2⟩ := bd_some e
  show wpAny _ _ (do
    let ov ← holding [val] (eval o p.env)
    standAt pos.atName
    holding [val, ov] (setAttr ov (fkey f) val)
    release [val, ov] []) Q E s
  refine wpAny_bind (wpAny_holding (h p hsx hr W W st s (Le.refl _) I x st1 e1 _ E fun W1 ov s1 x1 I1 r1 => ?_))
  refine wpAny_bind (wpAny_standAt (wpAny_bind (wpAny_holding ?_)))
  refine put_ok G C r1 ((hv.mono hle).mono x1.le) W1 st1 s1 (Le.refl _) I1 b st' e2 _ E fun W2 u s2 x2 I2 r2 => ?_
  exact wpAny_release (hQ W2 _ s2 (x1.trans x2) I2 trivial)
noncomputable def getF (f : Fd) : List AV → Cm AV := fun xs => match xs with
  | [o] => attrM f o
  | _ => no
noncomputable def setF (f : Fd) : List AV → Cm AV := fun xs => match xs with
  | [o, v] => bd (putM f o v) fun _ => pu .none
  | _ => no
theorem attrM_spec {f : Fd} {o v : AV} {st st' : AS} (h : attrM f o st = some (v, st')) : ∃ k i, o = .ins k ∧ st.ins[k]? = some i ∧ v = i.get f ∧ st' = st := by
  cases o <;> simp only [attrM, no] at h <;> try cases h
  split at h
  · rename_i i hi; cases h; exact ⟨_, i, rfl, hi, rfl, rfl⟩
  · cases h
theorem putM_spec {f : Fd} {o v : AV} {st st' : AS} {u : Unit} (h : putM f o v st = some (u, st')) : ∃ k i, o = .ins k ∧ st.ins[k]? = some i ∧ st' = { st with ins := st.ins.set k (i.put v f) } := by
  cases o <;> simp only [putM, no] at h <;> try cases h
  split at h
  · rename_i i hi; cases h; exact ⟨_, i, rfl, hi, rfl⟩
  · cases h
theorem frz0_nil (v : AV) : frz0 [] v = v := by cases v <;> rfl
theorem frzV_nil (v : AV) : frzV [] v = v := by
  cases v with
  | tup vs =>
    simp only [frzV]
    congr 1
    induction vs with
    | nil => rfl
    | cons a r ih => rw [List.map_cons, frz0_nil, ih]
  | _ => rfl
theorem getter_ok (G : Gd c) (C : Cls c) {fa : Addr} {fd : FuncData} {x : Str} {f : Fd} {p1 p2 p3 : Pos} (D : FnIs c fa fd [.Return (some (.Attribute (.Name x p1) (fkey f) p2)) p3] [x] []) (hd : (x == ("__debug__" : Str)) = false) : ImplF c (n + 1) fa (getF f) := by
  refine (fn_ok (n := n) G D (ImplS.cons (ImplS1.ret (ImplE.attr G C (ImplE.name (i := 0) rfl hd))) ImplS.nil)).sub fun xs st b st' e => ?_
  unfold getF at e
  split at e
  · rename_i o
    obtain ⟨k, i, rfl, hi, rfl, rfl⟩ := attrM_spec e
    simp [runFn, runFnG, thenM, retM, bd, var, attrM, pu, endFn, hi, frzV_nil]
  · cases e
theorem VR.notU {W : Wd} {v : Value} {x : AV} (h : VR W v x) : x ≠ .unb := by intro q; subst q; cases h
theorem setter_ok (G : Gd c) (C : Cls c) {fa : Addr} {fd : FuncData} {x y : Str} {f : Fd} {p1 p2 p3 p4 : Pos} (D : FnIs c fa fd [.Assign [.Attribute (.Name x p1) (fkey f) p2] (.Name y p3) p4] [x, y] [])
    (hd : (x == ("__debug__" : Str)) = false) (hd' : (y == ("__debug__" : Str)) = false) : ImplF c (n + 1) fa (setF f) := by
  intro A W st s hr H vs xs hv v st' e R hR
  refine fn_ok (n := n) G D (ImplS.cons (ImplS1.assign (ImplE.name (i := 1) rfl hd') (ImplA.attr G C (ImplE.name (i := 0) rfl hd))) ImplS.nil) A W st s hr H vs xs hv v st' ?_ R hR
  unfold setF at e
  split at e
  · rename_i o w
    obtain ⟨u, st2, e3, e4⟩ := bd_some e
    cases e4
    obtain ⟨k, i, rfl, hi, rfl⟩ := putM_spec e3
    have hw : w ≠ .unb := by
      cases hv with
      | cons _ h2 =>
        cases h2 with
        | cons h3 _ => exact h3.notU
    have w1 : ∀ st : AS, st.loc[1]? = some w → var 1 st = some (w, st) := fun st q => var_get q hw
    have w0 : ∀ st : AS, st.loc[0]? = some (.ins k) → var 0 st = some (.ins k, st) := fun st q => var_get q nofun
    simp [runFn, runFnG, thenM, asgM, bd, w1, w0, putM, pu, endFn, hi, frzV_nil]
  · cases e
structure MethIs (c : Cx) (m : Str) (fa : Addr) : Prop where
  find : findIn c.K (.ref c.C) m = some (some (.ref fa))
  typ : typeIn c.K (.ref fa) = some (.type "function")
  fn : ∃ oc od fd osl, c.K.lookup fa = some ⟨oc, od, .func fd, osl⟩
  other : ∀ f : Fd, (fkey f == m) = false
theorem FieldsAre.miss {W : Wd} {es : List DictEntry} {i : Ins} (h : FieldsAre W es i) {m : Str} (hm : ∀ f : Fd, (fkey f == m) = false) : PySem.W.getL m es = some .none := by
  cases h with
  | mk a b c d e => simp only [PySem.W.getL, List.find?, Value.isStr, hm, List.any_cons, List.any_nil, DictEntry.refKey]; rfl
noncomputable def methM (o : Cm AV) (args : Cm (List AV)) (F : List AV → Cm AV) : Cm AV := bd o fun x => match x with
  | .ins k => bd args fun ys => callM F (.ins k :: ys)
  | _ => no
theorem ImplE.meth (G : Gd c) (C : Cls c) {o : Expr} {m : Str} {apos pos : Pos} {es : List Expr} {fa : Addr} {fo : Cm AV} {fs : Cm (List AV)} {F : List AV → Cm AV} (M : MethIs c m fa) (h0 : ImplE c n sx o fo) (h1 : ImplEs c n sx es fs) (h2 : ImplF c n fa F)
    (hb : ∀ env t, attributeBase o m env t = t := by intro _ _; rfl) (hp : es.all plainX = true := by rfl) (hl : (apos.endLine == pos.line) = true := by rfl) (hfew : decide (es.length < 30) = true := by rfl) :
    ImplE c n sx (.Call (.Attribute o m apos) es [] pos) (methM fo fs F) := by
  intro p hsx hr W0 W st s hle I b st' e Q E hQ
  obtain ⟨x, st1, e1, e2⟩ := bd_some e
  obtain ⟨oc, od, fd, osl, hK⟩ := M.fn
  rw [arm_eval_Call, hb]
  refine wpAny_bind (h0 p hsx hr W W st s (Le.refl _) I x st1 e1 _ E fun W1 ov s1 x1 I1 r1 => wpAny_bind (wpAny_standAt ?_))
  cases r1 with
  | ins k hk =>
    obtain ⟨ys, st2, e3, e4⟩ := bd_some e2
    have hform : methodCallForm (es.length + ([] : List Keyword).length) (backTo pos (starEach es p.env)) (backToKw pos (keywordEach [] p.env)) = true := by
      unfold methodCallForm
      have h1 : (backTo pos (starEach es p.env)).all (fun x => !x.1) = true := by
        have := any_false (env := p.env) (pos := pos) hp
        rw [List.all_eq_not_any_not]; simpa using this
      rw [h1]
      show (true && true && decide (es.length + 0 + 0 < 30)) = true
      simpa using hfew
    have hpos : methodCallPos true o p.env apos pos = pure pos := by unfold methodCallPos; simp [hl]
    unfold methodCall
    rw [hform]
    have hi : ∃ i, st1.ins[k]? = some i := by
      have : k < st1.ins.length := by rw [← I1.hr.ni]; exact hk
      exact ⟨_, List.getElem?_eq_getElem this⟩
    obtain ⟨i, hi⟩ := hi
    obtain ⟨ess, mm, J, r⟩ := I1.hr.instAt hi
    refine wpAny_bind (wpAny_holding ?_)
    show wpAny _ _ (getMethod (.ref (W1.ia k)) m _) _ _ _
    refine method_fn (I1.hr.inK G) J C.ga C.gat M.find M.typ (by show (lookIn m (dictOf ess mm)).map _ = _; rw [lookIn_dict, r.miss M.other]; rfl) ?_
    refine wpAny_bind (wpAny_of_eq hpos ?_)
    refine Calls.callWith_function (o := ⟨oc, od, .func fd, osl⟩) (fd := fd) (evalArgs_row hp ?_)
    refine h1 p hsx hr W1 pos W1 st1 s1 (Le.refl _) I1 ys st2 e3 _ E fun W2 vs s2 x2 I2 r2 => ?_
    refine ⟨⟨I2.hr.keep _ _ (G.inK _ _ hK), rfl⟩, ?_⟩
    refine h2.call p hr W2 _ _ (.cons ((VR.ins k hk).mono x2.le) r2) W2 st2 s2 (Le.refl _) I2 b st' e4 Q E fun W3 v s3 x3 I3 r3 => hQ W3 v s3 ((x1.trans x2).trans x3) I3 r3
  | _ => cases e2
noncomputable def blank (v : AV) : Ins := ⟨v, .none, .none, .none, .none⟩
noncomputable def newM : List AV → Cm AV := fun xs st => match xs with
  | [] => some (.ins st.ins.length, { st with ins := st.ins ++ [blank .none] })
  | [v] => some (.ins st.ins.length, { st with ins := st.ins ++ [blank v] })
  | _ => .none
noncomputable def Wd.addIns (W : Wd) (x d : Addr) : Wd :=
  { W with role := fun b => if b = x then .ins W.ni else if b = d then .dct W.ni else W.role b, ia := fun k => if k = W.ni then x else W.ia k, da := fun k => if k = W.ni then d else W.da k, ni := W.ni + 1 }
theorem Wd.addIns_other {W : Wd} {x d b : Addr} (h1 : b ≠ x) (h2 : b ≠ d) : (W.addIns x d).role b = W.role b := by
  unfold Wd.addIns; simp [h1, h2]
theorem Le.addIns {W : Wd} {x d : Addr} (hx : W.role x = .oth) (hd : W.role d = .oth) : Le W (W.addIns x d) where
  ni := Nat.le_succ _
  nl := Nat.le_refl _
  ia := fun k hk => if_neg (Nat.ne_of_lt hk)
  da := fun k hk => if_neg (Nat.ne_of_lt hk)
  la := fun _ _ => rfl
  frz := fun a o e => by
    rw [Wd.addIns_other]; exact e
    · intro q; rw [q, hx] at e; cases e
    · intro q; rw [q, hd] at e; cases e
theorem HR.addIns {W : Wd} {st : AS} {h : Heap} {x d : Addr} {es : List DictEntry} {m : Nat} {i : Ins} (H : HR c W st h) (hxd : x ≠ d) (hx : W.role x = .oth) (hd : W.role d = .oth) (bx : c.h0.get? x = .none) (bd' : c.h0.get? d = .none)
    (gx : h.get? x = some (instObj c.C d)) (gd : h.get? d = some (dictOf es m)) (hf : FieldsAre W es i) : HR c (W.addIns x d) { st with ins := st.ins ++ [i] } h := by
  have L := Le.addIns hx hd
  have ne : ∀ b, W.role b ≠ .oth → (W.addIns x d).role b = W.role b := fun b hb => Wd.addIns_other (fun q => hb (q ▸ hx)) (fun q => hb (q ▸ hd))
  have rx : (W.addIns x d).role x = .ins W.ni := by unfold Wd.addIns; simp
  have rd : (W.addIns x d).role d = .dct W.ni := by unfold Wd.addIns; simp [Ne.symm hxd]
  refine ⟨H.keep, fun b hb => ?_, fun b => ?_, fun b o e => ?_, ?_, H.nl, fun k hk => ?_, fun k y e => ?_, fun g hg p hp => ?_, H.nodup⟩
  · by_cases h1 : b = x
    · rw [h1]; exact bx
    · by_cases h2 : b = d
      · rw [h2]; exact bd'
      · refine H.mutA b ?_; unfold Wd.Mut at hb ⊢; rwa [Wd.addIns_other h1 h2] at hb
  · by_cases h1 : b = x
    · rw [h1]; exact .inr ⟨_, gx⟩
    · by_cases h2 : b = d
      · rw [h2]; exact .inr ⟨_, gd⟩
      · rw [Wd.addIns_other h1 h2]; exact H.lt b
  · by_cases h1 : b = x
    · rw [h1, rx] at e; cases e
    · by_cases h2 : b = d
      · rw [h2, rd] at e; cases e
      · rw [Wd.addIns_other h1 h2] at e; exact H.frz b o e
  · show W.ni + 1 = (st.ins ++ [i]).length
    rw [List.length_append, H.ni]; rfl
  · by_cases hk' : k = W.ni
    · subst hk'
      have e1 : (W.addIns x d).ia W.ni = x := if_pos rfl
      have e2 : (W.addIns x d).da W.ni = d := if_pos rfl
      rw [e1, e2]; exact ⟨rx, rd⟩
    · have hlt : k < W.ni := by have : k < W.ni + 1 := hk; omega
      rw [L.ia k hlt, L.da k hlt]
      obtain ⟨r1, r2⟩ := H.iaR k hlt
      exact ⟨(ne _ (by rw [r1]; intro q; cases q)).trans r1, (ne _ (by rw [r2]; intro q; cases q)).trans r2⟩
  · have e' : (st.ins ++ [i])[k]? = some y := e
    by_cases hlt : k < st.ins.length
    · rw [List.getElem?_append_left hlt] at e'
      obtain ⟨es0, m0, e1, e2, r⟩ := H.insA k y e'
      rw [L.ia k (by rw [H.ni]; exact hlt), L.da k (by rw [H.ni]; exact hlt)]
      exact ⟨es0, m0, e1, e2, r.mono L⟩
    · have hk' : k = W.ni := by
        rw [List.getElem?_append_right (by omega)] at e'
        have : k - st.ins.length < 1 := (List.getElem?_eq_some_iff.mp e').1
        rw [H.ni]; omega
      subst hk'
      have e1 : (W.addIns x d).ia W.ni = x := if_pos rfl
      have e2 : (W.addIns x d).da W.ni = d := if_pos rfl
      rw [H.ni, List.getElem?_append_right (Nat.le_refl _), Nat.sub_self] at e'
      cases e'
      rw [e1, e2]
      exact ⟨es, m, gx, gd, hf.mono L⟩
  · obtain ⟨h1, h2, vs, m0, h3, h4⟩ := H.lstA g hg p hp
    exact ⟨h1, (ne (W.la p.1) (by rw [h2]; intro q; cases q)).trans h2, vs, m0, h3, h4.mono L⟩
end
end Mine

namespace Mine

section
variable {c : Cx} {n : Nat} {sx : Sx}

structure InitIs (c : Cx) (fa : Addr) (fd : FuncData) (body : List Stmt) (slf sysid : Str) : Prop where
  find : findIn c.K (.ref c.C) "__init__" = some (some (.ref fa))
  typ : typeIn c.K (.ref fa) = some (.type "function")
  at_ : ∃ oc od osl, c.K.lookup fa = some ⟨oc, od, .func fd, osl⟩
  bodyIs : fd.body = .stmts body
  code : codeIn c.K fd.code fd.qualname = true
  co : fd.scope.isCoroutine = false
  gen : fd.scope.isGenerator = false
  kind : fd.scope.kind = .function
  cell : ∀ x ∈ fd.scope.names, x.2 ≠ .cell
  bind1 : ∀ S x, peek c.K S (bindArgs fd ⟨[x], []⟩) = some [(slf, x), (sysid, .none)]
  bind2 : ∀ S x v, peek c.K S (bindArgs fd ⟨[x, v], []⟩) = some [(slf, x), (sysid, v)]
  k1 : fd.scope.names.lookup slf = some .local
  k2 : fd.scope.names.lookup sysid = some .local
  ne : slf ≠ sysid
  d1 : (slf == ("__debug__" : Str)) = false
  d2 : (sysid == ("__debug__" : Str)) = false
  shape : ∃ p1 p2 p3 p4 p5 p6 p7 p8 p9 p10 p11 p12 p13 p14 p15 p16 p17 p18 p19 p20 k2 k3 k4 k5, body = [
    .Assign [.Attribute (.Name slf p1) (fkey .sys) p2] (.Name sysid p3) p4,
    .Assign [.Attribute (.Name slf p5) (fkey .pub) p6] (.Constant .none k2 p7) p8,
    .Assign [.Attribute (.Name slf p9) (fkey .enc) p10] (.Constant .none k3 p11) p12,
    .Assign [.Attribute (.Name slf p13) (fkey .byt) p14] (.Constant .none k4 p15) p16,
    .Assign [.Attribute (.Name slf p17) (fkey .chr) p18] (.Constant .none k5 p19) p20]
noncomputable def InitAt (s1 : Shared) (d : Addr) (es : List DictEntry) (s : Shared) : Prop := ∃ h tk m, s = { s1 with heap := h, toks := tk } ∧ h.get? d = some (dictOf es m) ∧ Heap.SameBut d s1.heap h
theorem InitAt.step (C : Cls c) {A : Around} {E : Value → Shared → Prop} {s1 s : Shared} {x d : Addr} {env : Env} {m : Str → Option Value} {es : List DictEntry} {self : Str} {f : Fd} {value : Expr} {val : Value} {p1 p2 p3 : Pos} {Q : Flow → Shared → Prop}
    (X : c.K.In s1.heap) (hxd : x ≠ d) (hx : s1.heap.get? x = some (instObj c.C d)) (hK : c.K.lookup d = .none) (hk : env.scope.kind = .function) (hself : env.kindOf self = some .local) (hns : s1.heap.Ns env.locals m) (hL : env.locals ≠ d) (hm : m self = some (.ref x))
    (hd : (self == ("__debug__" : Str)) = false) (hsw : swapsWith value (some (.Attribute (.Name self p1) (fkey f) p2)) p3.line env = pure false)
    (J : InitAt s1 d es s) (hg : PySem.W.getL (fkey f) es = some .none) (hz : es.length ≤ 900)
    (hv : ∀ s, InitAt s1 d es s → ∀ Q' : Value → Shared → Prop, (∀ s', InitAt s1 d es s' → Q' val s') → wpAny (model c.prog c.w) A (eval value env) Q' E s)
    (h : ∀ hsh t s', InitAt s1 d (PySem.W.putL (fkey f) hsh (.str (fkey f) t) val es) s' → Q .next s') :
    wpAny (model c.prog c.w) A (exec (.Assign [.Attribute (.Name self p1) (fkey f) p2] value p3) env) Q E s := by
  refine plainObj_wpAny_Assign_Attribute (hv s J _ fun s2 J2 => ?_) hsw
  obtain ⟨h2, tk2, m2, rfl, hd2, hs2⟩ := J2
  refine wpAny_Name (wpAny_loadName_local hk hself (hns.sameBut hs2 hL) hm ?_) hd
  have X2 : c.K.In h2 := fun a o e => hs2.extBut a o (fun q => by rw [q, hK] at e; cases e) (X a o e)
  have I2 : InstAt h2 x (instObj c.C d) c.C (some (dictOf es m2)) := ⟨hs2.extBut _ _ hxd hx, rfl, rfl, hd2⟩
  have len : ∀ (hsh : Int) (key v : Value) (l : List DictEntry), (PySem.W.putL (fkey f) hsh key v l).length ≤ l.length + 1 := by
    intro hsh key v l
    induction l with
    | nil => simp [PySem.W.putL]
    | cons a r ih => simp only [PySem.W.putL]; split <;> simp <;> omega
  refine set_raw (s := { s1 with heap := h2, toks := tk2 }) C X2 I2 (C.fields f) (by rw [hg]; rfl) (Nat.le_trans (len ..) (by omega)) fun h' hd' hs' => ?_
  exact h _ _ _ ⟨h', _, _, rfl, hd', hs2.trans hs'⟩
theorem init_ok (G : Gd c) (C : Cls c) {fa : Addr} {fd : FuncData} {body : List Stmt} {self sysid : Str} (D : InitIs c fa fd body self sysid) {A : Around} (hr : A.depth < recursionLimit) {s : Shared} {x d : Addr} {args : List Value} {val : Value}
    (hargs : (args = [.ref x] ∧ val = .none) ∨ args = [.ref x, val]) (hkeep : ∀ a o, c.h0.get? a = some o → s.heap.get? a = some o) (hxd : x ≠ d) (hx : s.heap.get? x = some (instObj c.C d)) (hd : s.heap.get? d = some (dictOf [] 0)) (hd0 : c.h0.get? d = .none) {R : Result → Shared → Prop}
    (h : ∀ s' h1 t1 t2 t3 t4 t5 u1 u2 u3 u4 u5 m, s'.gens = s.gens → s'.os = s.os → (∀ b o, b ≠ d → s.heap.get? b = some o → s'.heap.get? b = some o) →
      s'.heap.get? d = some (dictOf [⟨h1, .str (fkey .sys) t1, val⟩, ⟨u1, .str (fkey .pub) t2, .none⟩, ⟨u2, .str (fkey .enc) t3, .none⟩, ⟨u3, .str (fkey .byt) t4, .none⟩, ⟨u4, .str (fkey .chr) t5, .none⟩] m) → u5 = 0 → R (.ok (.ret .none)) s') :
    codeAny (model c.prog c.w) A (.call (.ref fa) ⟨args, []⟩) R s := by
  obtain ⟨oc, od, osl, hK⟩ := D.at_
  have X : c.K.In s.heap := fun a o e => hkeep _ _ (G.inK a o e)
  have hKd : c.K.lookup d = .none := by
    cases e : c.K.lookup d with
    | none => rfl
    | some o => rw [G.inK _ _ e] at hd0; cases hd0
  have hb : BindsTo s fd ⟨args, []⟩ [(self, .ref x), (sysid, val)] := by
    rcases hargs with ⟨rfl, rfl⟩ | rfl
    · exact kp_binds X fun S => D.bind1 S _
    · exact kp_binds X fun S => D.bind2 S _ _
  refine codeAny_call_def hr (X _ _ hK) rfl (G.nolimit.keeps hkeep) (codeRec_of X D.code) D.bodyIs hb D.cell (fun y hy => ?_) (fun h1 hns hk1 => ?_) D.co D.gen D.kind
  · rcases List.mem_cons.mp hy with rfl | hy
    · exact D.k1
    · rcases List.mem_cons.mp hy with rfl | hy
      · exact D.k2
      · cases hy
  · obtain ⟨p1, p2, p3, p4, p5, p6, p7, p8, p9, p10, p11, p12, p13, p14, p15, p16, p17, p18, p19, p20, k2, k3, k4, k5, rfl⟩ := D.shape
    have m1 : ([(self, Value.ref x), (sysid, val)].reverse.lookup self) = some (.ref x) := by
      have : (self == sysid) = false := by simpa using D.ne
      simp [List.lookup_cons, this]
    have m2 : ([(self, Value.ref x), (sysid, val)].reverse.lookup sysid) = some val := by simp [List.lookup_cons]
    have hL : s.heap.objs.size ≠ d := fun q => Nat.lt_irrefl _ (q ▸ Heap.lt_size hd)
    let s1 : Shared := { s with heap := h1, toks := s.toks + 2 }
    have X1 : c.K.In s1.heap := fun a o e => hk1 _ _ (X a o e)
    have J0 : InitAt s1 d [] s1 := ⟨h1, _, 0, rfl, hk1 _ _ hd, Heap.SameBut.refl ..⟩
    have st : ∀ (f : Fd) (value : Expr) (v : Value) (q1 q2 q3 : Pos) (es : List DictEntry) (s2 : Shared) (Q : Flow → Shared → Prop), InitAt s1 d es s2 → PySem.W.getL (fkey f) es = some .none → es.length ≤ 900 →
        (swapsWith value (some (.Attribute (.Name self q1) (fkey f) q2)) q3.line (callEnv fd s.heap.objs.size fa) = pure false) →
        (∀ s3, InitAt s1 d es s3 → ∀ Q' : Value → Shared → Prop, (∀ s', InitAt s1 d es s' → Q' v s') → wpAny (model c.prog c.w) (A.deeper (callEnv fd s.heap.objs.size fa)) (eval value (callEnv fd s.heap.objs.size fa)) Q' (fun _ _ => False) s3) →
        (∀ hsh t s', InitAt s1 d (PySem.W.putL (fkey f) hsh (.str (fkey f) t) v es) s' → Q .next s') →
        wpAny (model c.prog c.w) (A.deeper (callEnv fd s.heap.objs.size fa)) (exec (.Assign [.Attribute (.Name self q1) (fkey f) q2] value q3) (callEnv fd s.heap.objs.size fa)) Q (fun _ _ => False) s2 :=
      fun f value v q1 q2 q3 es s2 Q J hg hz hsw hv hq => InitAt.step (env := callEnv fd s.heap.objs.size fa) C X1 hxd (hk1 _ _ hx) hKd D.kind D.k1 hns hL m1 D.d1 hsw J hg hz hv hq
    have none_v : ∀ (k : Nat) (q : Pos) (es : List DictEntry) (s3 : Shared), InitAt s1 d es s3 → ∀ Q' : Value → Shared → Prop, (∀ s', InitAt s1 d es s' → Q' .none s') → wpAny (model c.prog c.w) (A.deeper (callEnv fd s.heap.objs.size fa)) (eval (.Constant .none k q) (callEnv fd s.heap.objs.size fa)) Q' (fun _ _ => False) s3 :=
      fun k q es s3 J Q' hq => wpAny_Constant_none (hq s3 J)
    refine wpAny_noRaise ?_
    refine wpAny_execs_cons (st .sys _ val _ _ _ [] s1 _ J0 rfl (by decide) rfl (fun s3 J Q' hq => ?_) fun g1 t1 s2 J2 => ?_)
    · obtain ⟨h3, tk3, m3, rfl, e1, e2⟩ := J
      exact wpAny_Name (wpAny_loadName_local (env := callEnv fd s.heap.objs.size fa) D.kind D.k2 (hns.sameBut e2 hL) m2 (hq _ ⟨h3, tk3, m3, rfl, e1, e2⟩)) D.d2
    dsimp only
    refine wpAny_execs_cons (st .pub _ .none _ _ _ _ s2 _ J2 (by simp only [PySem.W.getL, PySem.W.putL, Value.isStr, fkey_is]; rfl) (by simp [PySem.W.putL]) rfl (none_v _ _ _) fun g2 t2 s3 J3 => ?_)
    dsimp only
    refine wpAny_execs_cons (st .enc _ .none _ _ _ _ s3 _ J3 (by simp only [PySem.W.getL, PySem.W.putL, Value.isStr, fkey_is]; rfl) (by simp only [PySem.W.putL, Value.isStr, fkey_is]; first | (show 2 ≤ 900; decide) | (show 3 ≤ 900; decide) | (show 4 ≤ 900; decide)) rfl (none_v _ _ _) fun g3 t3 s4 J4 => ?_)
    dsimp only
    refine wpAny_execs_cons (st .byt _ .none _ _ _ _ s4 _ J4 (by simp only [PySem.W.getL, PySem.W.putL, Value.isStr, fkey_is]; rfl) (by simp only [PySem.W.putL, Value.isStr, fkey_is]; first | (show 2 ≤ 900; decide) | (show 3 ≤ 900; decide) | (show 4 ≤ 900; decide)) rfl (none_v _ _ _) fun g4 t4 s5 J5 => ?_)
    dsimp only
    refine wpAny_execs_cons (st .chr _ .none _ _ _ _ s5 _ J5 (by simp only [PySem.W.getL, PySem.W.putL, Value.isStr, fkey_is]; rfl) (by simp only [PySem.W.putL, Value.isStr, fkey_is]; first | (show 2 ≤ 900; decide) | (show 3 ≤ 900; decide) | (show 4 ≤ 900; decide)) rfl (none_v _ _ _) fun g5 t5 s6 J6 => ?_)
    dsimp only
    refine wpAny_execs_nil ?_
    simp only [PySem.W.putL, Value.isStr, fkey_is] at J6
    obtain ⟨h6, tk6, m6, rfl, e1, e2⟩ := J6
    exact h _ g1 t1 t2 t3 t4 t5 g2 g3 g4 g5 0 m6 rfl rfl (fun b o hb e => e2.extBut b o hb (hk1 b o e)) e1 rfl
theorem new_ok (G : Gd c) (C : Cls c) {fa : Addr} {fd : FuncData} {body : List Stmt} {self sysid : Str} (D : InitIs c fa fd body self sysid) : OkCall c (n + 1) (.ref c.C) newM := by
  intro p hr W0 vs xs hv W st s hle I b st' e Q E hQ
  have X := I.hr.inK G
  obtain ⟨hh, g, dr, t, os⟩ := s
  have hv' := hv.mono hle
  have main : ∀ (args : List Value) (val : Value) (v : AV), args = vs → VR W val v → (∀ y : Addr, (Value.ref y :: args = [.ref y] ∧ val = .none) ∨ Value.ref y :: args = [.ref y, val]) → some (AV.ins st.ins.length, { st with ins := st.ins ++ [blank v] }) = some (b, st') →
      wpAny (model c.prog c.w) p.A (call (.ref c.C) vs) Q E ⟨hh, g, dr, t, os⟩ := by
    intro args val v hargs hval hsh e'
    cases e'
    subst hargs
    refine wpAny_call (make_core (makes_of X C.makes) (looks_findIn X D.find) (fun self => bind_fn X self D.typ) (.inl rfl) ?_)
    have nd : hh.get? hh.objs.size = .none := get_none_of_ge (Nat.le_refl _)
    have nx : hh.get? (hh.objs.size + 1) = .none := get_none_of_ge (Nat.le_succ _)
    have hk : ∀ b o, hh.get? b = some o → ((hh.push emptyDict).push (instObj c.C hh.objs.size)).get? b = some o := fun b o e => Heap.get?_push_of_some _ (Heap.get?_push_of_some _ e)
    have gx : ((hh.push emptyDict).push (instObj c.C hh.objs.size)).get? (hh.objs.size + 1) = some (instObj c.C hh.objs.size) := by
      have := Heap.get?_push_size (hh.push emptyDict) (o := instObj c.C hh.objs.size) rfl
      rwa [Heap.size_push] at this
    have gd : ((hh.push emptyDict).push (instObj c.C hh.objs.size)).get? hh.objs.size = some (dictOf [] 0) := Heap.get?_push_of_some _ (Heap.get?_push_size _ rfl)
    refine init_ok G C D (by rw [depth_under_make]; have := hr.2.1; unfold recursionLimit; omega) (x := hh.objs.size + 1) (d := hh.objs.size) (val := val) (hsh _) (fun a o q => hk a o (I.hr.keep a o q)) (Nat.ne_of_gt (Nat.lt_succ_self _)) gx gd (I.hr.base_none nd) ?_
    intro s' h1 t1 t2 t3 t4 t5 u1 u2 u3 u4 u5 m hg ho hkeep hd _
    refine ⟨rfl, ?_⟩
    have kk : ∀ b o, hh.get? b = some o → s'.heap.get? b = some o := fun b o q => hkeep b o (fun z => by rw [z, nd] at q; cases q) (hk b o q)
    have rx := I.hr.oth_of_none nx
    have rd := I.hr.oth_of_none nd
    have I' : Inv c p W st s' := I.keeps kk
    have hf : FieldsAre W _ (blank v) := FieldsAre.mk (h1 := h1) (h2 := u1) (h3 := u2) (h4 := u3) (h5 := u4) (t1 := t1) (t2 := t2) (t3 := t3) (t4 := t4) (t5 := t5) (i := blank v) hval .none .none .none .none
    have H := I'.hr.addIns (x := hh.objs.size + 1) (d := hh.objs.size) (Nat.ne_of_gt (Nat.lt_succ_self _)) rx rd (I.hr.base_none nx) (I.hr.base_none nd) (hkeep _ _ (Nat.ne_of_gt (Nat.lt_succ_self _)) gx) hd hf
    have hlocne : ∀ a, (∃ o, hh.get? a = some o) → (W.addIns (hh.objs.size + 1) hh.objs.size).role a = W.role a := fun a ⟨o, q⟩ => Wd.addIns_other (fun z => by rw [z, nx] at q; cases q) (fun z => by rw [z, nd] at q; cases q)
    refine hQ (W.addIns (hh.objs.size + 1) hh.objs.size) _ s' ⟨Le.addIns rx rd, fun a o q => ⟨o, kk a o q⟩, fun a o q z => (hlocne a ⟨o, q⟩).trans z, fun a o _ _ q => kk a o q, hg, ho⟩ ⟨H, I'.fr.mono (Le.addIns rx rd) ?_ ?_⟩ ?_
    · obtain ⟨ml, ⟨o, es, ep, q, _⟩, _⟩ := I.fr.ns
      exact (hlocne _ ⟨o, q⟩).trans I.fr.roleL
    · intro y a q
      obtain ⟨v', o, z, _⟩ := I.fr.cells y a q
      exact (hlocne _ ⟨o, z⟩).trans (I.fr.roleC y a q).1
    · have e1 : (W.addIns (hh.objs.size + 1) hh.objs.size).ia st.ins.length = hh.objs.size + 1 := by rw [← I.hr.ni]; exact if_pos rfl
      have := VR.ins (W := W.addIns (hh.objs.size + 1) hh.objs.size) st.ins.length (by rw [← I.hr.ni]; exact Nat.lt_succ_self _)
      rwa [e1] at this
  unfold newM at e
  split at e
  · cases hv'; exact main [] .none .none rfl .none (fun y => .inl ⟨rfl, rfl⟩) e
  · rename_i v
    cases hv' with
    | cons h1 h2 => cases h2; exact main [_] _ _ rfl h1 (fun y => .inr rfl) e
  · cases e
theorem ImplE.new (G : Gd c) (C : Cls c) {fa : Addr} {fd : FuncData} {body : List Stmt} {self sysid : Str} (D : InitIs c fa fd body self sysid) {x : Str} {p0 pos : Pos} {es : List Expr} {fs : Cm (List AV)} (hx : sx.sc.names.lookup x = some .globalImplicit) (hg : c.Glob x (.ref c.C))
    (h1 : ImplEs c (n + 1) sx es fs) (hd : (x == ("__debug__" : Str)) = false := by decide) (hp : es.all plainX = true := by rfl) : ImplE c (n + 1) sx (.Call (.Name x p0) es [] pos) (bd fs newM) := by
  intro p hsx hr W0 W st s hle I b st' e Q E hQ
  obtain ⟨xs, st1, e1, e2⟩ := bd_some e
  refine Call_ (load_glob G I (by rw [hsx]; exact hx) hg hd ?_)
  have fin : ∀ W1 vs s1, Ext p.Own W s W1 s1 → Inv c p W1 st1 s1 → VRs W1 vs xs → wpAny (model c.prog c.w) p.A (call (.ref c.C) vs) Q E s1 := fun W1 vs s1 x1 I1 r1 =>
    new_ok G C D p hr W1 vs xs r1 W1 st1 s1 (Le.refl _) I1 b st' e2 Q E fun W2 v s2 x2 I2 r2 => hQ W2 v s2 (x1.trans x2) I2 r2
  cases es with
  | nil =>
    have h := h1 p hsx hr W pos W st s (Le.refl _) I xs st1 e1
    refine callWith_K0 (I.hr.inK G) C.keep ?_
    have h' := h (fun vs s1 => vs = [] ∧ s1 = s → wpAny (model c.prog c.w) p.A (call (.ref c.C) ([] ++ [])) Q E s) (fun _ _ => False) (fun W1 vs s1 x1 I1 r1 hh => by obtain ⟨h1, h2⟩ := hh; subst h1; rw [h2] at x1 I1; exact fin W1 [] s x1 I1 r1)
    intro Γ pp hΓ
    exact (h' Γ pp hΓ) ⟨rfl, rfl⟩ Γ pp hΓ
  | cons e0 r0 =>
    have he : plainX e0 = true := (Bool.and_eq_true_iff.mp (List.all_cons ▸ hp)).1
    refine callWith_K (G.inK) C.keep (h1 p hsx hr W pos W st s (Le.refl _) I xs st1 e1 _ E fun W1 vs s1 x1 I1 r1 => ⟨I1.hr.inK G, ?_⟩) (star_plain he) (any_false (Bool.and_eq_true_iff.mp (List.all_cons ▸ hp)).2)
    exact fin W1 vs s1 x1 I1 r1
end
end Mine

namespace Mine

theorem lookL_none {k : Nat} : ∀ {g : List (Nat × List AV)}, lookL k g = .none → ∀ p ∈ g, p.1 ≠ k
  | [], _, _, h => by cases h
  | (j, xs) :: r, h, p, hp => by
    simp only [lookL] at h
    split at h
    · cases h
    · rename_i q
      rcases List.mem_cons.mp hp with rfl | hp
      · exact fun e => q e.symm
      · exact lookL_none h p hp
theorem getL1_mem {k : Nat} {xs : List AV} : ∀ {l : LH}, getL1 k l = some xs → ∃ g ∈ l, (k, xs) ∈ g
  | [], h => by cases h
  | g :: r, h => by
    simp only [getL1] at h
    split at h
    · rename_i ys e; cases h; exact ⟨g, List.mem_cons_self, lookL_mem e⟩
    · obtain ⟨g', h1, h2⟩ := getL1_mem h; exact ⟨g', List.mem_cons_of_mem _ h1, h2⟩
theorem putSeg_fst {k : Nat} {ys : List AV} : ∀ g : List (Nat × List AV), (putSeg k ys g).map (·.1) = g.map (·.1)
  | [] => rfl
  | (j, xs) :: r => by
    simp only [putSeg]
    split
    · rfl
    · rw [List.map_cons, List.map_cons, putSeg_fst r]
theorem putL1_fst {k : Nat} {ys : List AV} : ∀ l : LH, (putL1 k ys l).flatten.map (·.1) = l.flatten.map (·.1)
  | [] => rfl
  | g :: r => by
    simp only [putL1]
    split
    · rw [List.flatten_cons, List.flatten_cons, List.map_append, List.map_append, putSeg_fst]
    · rw [List.flatten_cons, List.flatten_cons, List.map_append, List.map_append, putL1_fst r]
theorem putSeg_mem {k : Nat} {ys : List AV} {p : Nat × List AV} : ∀ {g : List (Nat × List AV)}, (g.map (·.1)).Nodup → p ∈ putSeg k ys g → p = (k, ys) ∨ (p ∈ g ∧ p.1 ≠ k)
  | [], _, h => by cases h
  | (j, xs) :: r, nd, h => by
    rw [List.map_cons, List.nodup_cons] at nd
    simp only [putSeg] at h
    split at h
    · rename_i q
      subst q
      rcases List.mem_cons.mp h with h | h
      · exact .inl h
      · exact .inr ⟨List.mem_cons_of_mem _ h, fun e => nd.1 (e ▸ List.mem_map.mpr ⟨p, h, rfl⟩)⟩
    · rename_i q
      rcases List.mem_cons.mp h with h | h
      · subst h; exact .inr ⟨List.mem_cons_self, fun e => q e.symm⟩
      · rcases putSeg_mem nd.2 h with h | ⟨h1, h2⟩
        · exact .inl h
        · exact .inr ⟨List.mem_cons_of_mem _ h1, h2⟩
theorem putL1_mem {k : Nat} {ys : List AV} {p : Nat × List AV} : ∀ {l : LH}, (l.flatten.map (·.1)).Nodup → p ∈ (putL1 k ys l).flatten → p = (k, ys) ∨ (p ∈ l.flatten ∧ p.1 ≠ k)
  | [], _, h => by cases h
  | g :: r, nd, h => by
    rw [List.flatten_cons, List.map_append, List.nodup_append] at nd
    simp only [putL1] at h
    split at h
    · rename_i zs hz
      rw [List.flatten_cons, List.mem_append] at h
      rcases h with h | h
      · rcases putSeg_mem nd.1 h with h | ⟨h1, h2⟩
        · exact .inl h
        · exact .inr ⟨by rw [List.flatten_cons, List.mem_append]; exact .inl h1, h2⟩
      · exact .inr ⟨by rw [List.flatten_cons, List.mem_append]; exact .inr h, fun e => nd.2.2 k (List.mem_map.mpr ⟨_, lookL_mem hz, rfl⟩) p.1 (List.mem_map.mpr ⟨p, h, rfl⟩) e.symm⟩
    · rename_i hz
      rw [List.flatten_cons, List.mem_append] at h
      rcases h with h | h
      · exact .inr ⟨by rw [List.flatten_cons, List.mem_append]; exact .inl h, lookL_none hz p h⟩
      · rcases putL1_mem nd.2.1 h with h | ⟨h1, h2⟩
        · exact .inl h
        · exact .inr ⟨by rw [List.flatten_cons, List.mem_append]; exact .inr h1, h2⟩
theorem pushL1_mem {k : Nat} {xs : List AV} {p : Nat × List AV} : ∀ {l : LH}, p ∈ (pushL1 k xs l).flatten → p = (k, xs) ∨ p ∈ l.flatten
  | [], h => by simp [pushL1] at h; exact .inl h
  | g :: r, h => by
    simp only [pushL1, List.flatten_cons, List.cons_append, List.mem_cons, List.mem_append] at h ⊢
    exact h
theorem pushL1_fst {k : Nat} {xs : List AV} : ∀ l : LH, (pushL1 k xs l).flatten.map (·.1) = k :: l.flatten.map (·.1)
  | [] => rfl
  | g :: r => by simp only [pushL1, List.flatten_cons, List.cons_append, List.map_cons]
section
variable {c : Cx} {n : Nat} {sx : Sx}

theorem HR.lstA' {W : Wd} {st : AS} {h : Heap} (H : HR c W st h) {p : Nat × List AV} (hp : p ∈ st.lst.flatten) : p.1 < W.nl ∧ W.role (W.la p.1) = .lob p.1 ∧ ∃ vs n, h.get? (W.la p.1) = some (listOf vs.toArray n) ∧ VRs W vs p.2 := by
  obtain ⟨g, hg, hp⟩ := List.mem_flatten.mp hp
  exact H.lstA g hg p hp
theorem HR.lobAt {W : Wd} {st : AS} {h : Heap} (H : HR c W st h) {k : Nat} {xs : List AV} (e : getL1 k st.lst = some xs) : k < W.nl ∧ W.role (W.la k) = .lob k ∧ ∃ vs n, h.get? (W.la k) = some (listOf vs.toArray n) ∧ VRs W vs xs := by
  obtain ⟨g, hg, hp⟩ := getL1_mem e
  exact H.lstA g hg _ hp
theorem HR.updLob {W : Wd} {st : AS} {h h' : Heap} {k m : Nat} {xs ys : List AV} {vs : List Value} (H : HR c W st h) (e : getL1 k st.lst = some xs) (hd : h'.get? (W.la k) = some (listOf vs.toArray m)) (hs : Heap.SameBut (W.la k) h h') (hv : VRs W vs ys) :
    HR c W { st with lst := putL1 k ys st.lst } h' := by
  obtain ⟨r0, r2, _⟩ := H.lobAt e
  have hm : W.Mut (W.la k) := by unfold Wd.Mut; rw [r2]; trivial
  have kp : ∀ a o, a ≠ W.la k → h.get? a = some o → h'.get? a = some o := fun a o ha e => hs.extBut a o ha e
  refine ⟨fun a o e => kp a o (fun q => ?_) (H.keep a o e), H.mutA, fun a => ?_, fun a o e => kp a o (fun q => ?_) (H.frz a o e), H.ni, H.nl, H.iaR, fun j y e => ?_, fun g hg p hp => ?_, ?_⟩
  · rw [q, H.mutA _ hm] at e; cases e
  · rcases Classical.em (a = W.la k) with q | q
    · subst q; exact .inr ⟨_, hd⟩
    · exact (H.lt a).imp id fun ⟨o, z⟩ => ⟨o, kp a o q z⟩
  · rw [q, r2] at e; cases e
  · obtain ⟨es0, m0, e1, e2, r⟩ := H.insA j y e
    have hj : j < W.ni := by rw [H.ni]; exact (List.getElem?_eq_some_iff.mp e).1
    obtain ⟨s1, s2⟩ := H.iaR j hj
    exact ⟨es0, m0, kp _ _ (fun q => by rw [q, r2] at s1; cases s1) e1, kp _ _ (fun q => by rw [q, r2] at s2; cases s2) e2, r⟩
  · rcases putL1_mem H.nodup (List.mem_flatten.mpr ⟨g, hg, hp⟩) with q | ⟨q1, q2⟩
    · subst q; exact ⟨r0, r2, vs, m, hd, hv⟩
    · obtain ⟨h1, h2, us, m0, h3, h4⟩ := H.lstA' q1
      exact ⟨h1, h2, us, m0, kp _ _ (fun z => by rw [z, r2] at h2; cases h2; exact q2 rfl) h3, h4⟩
  · show ((putL1 k ys st.lst).flatten.map (·.1)).Nodup
    rw [putL1_fst]; exact H.nodup
theorem lob_change {p : Pl} {W : Wd} {st : AS} {s : Shared} {h' : Heap} {k m tk : Nat} {xs ys : List AV} {vs : List Value} (I : Inv c p W st s) (e : getL1 k st.lst = some xs) (hd : h'.get? (W.la k) = some (listOf vs.toArray m)) (hs : Heap.SameBut (W.la k) s.heap h') (hv : VRs W vs ys) :
    Inv c p W { st with lst := putL1 k ys st.lst } { s with heap := h', toks := tk } ∧ Ext p.Own W s W { s with heap := h', toks := tk } := by
  obtain ⟨_, r2, _⟩ := I.hr.lobAt e
  have hm : W.Mut (W.la k) := by unfold Wd.Mut; rw [r2]; trivial
  exact ⟨⟨I.hr.updLob e hd hs hv, I.fr.change hm hs⟩, Ext.change hm hs ⟨_, hd⟩⟩
noncomputable def Wd.addLob (W : Wd) (a : Addr) : Wd :=
  { W with role := fun b => if b = a then .lob W.nl else W.role b, la := fun k => if k = W.nl then a else W.la k, nl := W.nl + 1 }
theorem Le.addLob {W : Wd} {a : Addr} (h : W.role a = .oth) : Le W (W.addLob a) where
  ni := Nat.le_refl _
  nl := Nat.le_succ _
  ia := fun _ _ => rfl
  da := fun _ _ => rfl
  la := fun k hk => if_neg (Nat.ne_of_lt hk)
  frz := fun b o e => by
    show (if b = a then Role.lob W.nl else W.role b) = _
    rw [if_neg]; exact e
    intro q; rw [q, h] at e; cases e
theorem HR.addLob {W : Wd} {st : AS} {h : Heap} {a : Addr} {vs : List Value} {m : Nat} {xs : List AV} (H : HR c W st h) (hr : W.role a = .oth) (hb : c.h0.get? a = .none) (ha : h.get? a = some (listOf vs.toArray m)) (hv : VRs W vs xs) :
    HR c (W.addLob a) { st with lst := pushL1 st.nl xs st.lst, nl := st.nl + 1 } h := by
  have L := Le.addLob hr
  have ne : ∀ b, W.role b ≠ .oth → (W.addLob a).role b = W.role b := fun b hb => if_neg (show b ≠ a from fun q => hb (q ▸ hr))
  have rs : (W.addLob a).role a = .lob W.nl := if_pos rfl
  have ot : ∀ b, b ≠ a → (W.addLob a).role b = W.role b := fun b hb => if_neg hb
  refine ⟨H.keep, fun b hm => ?_, fun b => ?_, fun b o e => ?_, H.ni, congrArg (· + 1) H.nl, fun k hk => ?_, fun k i e => ?_, fun g hg p hp => ?_, ?_⟩
  · by_cases q : b = a
    · rw [q]; exact hb
    · refine H.mutA b ?_; unfold Wd.Mut at hm ⊢; rwa [ot b q] at hm
  · by_cases q : b = a
    · rw [q]; exact .inr ⟨_, ha⟩
    · rw [ot b q]; exact H.lt b
  · by_cases q : b = a
    · rw [q, rs] at e; cases e
    · rw [ot b q] at e; exact H.frz b o e
  · obtain ⟨r1, r2⟩ := H.iaR k hk
    exact ⟨(ne (W.ia k) (by rw [r1]; intro q; cases q)).trans r1, (ne (W.da k) (by rw [r2]; intro q; cases q)).trans r2⟩
  · obtain ⟨es, m0, e1, e2, r⟩ := H.insA k i e
    exact ⟨es, m0, e1, e2, r.mono L⟩
  · rcases pushL1_mem (List.mem_flatten.mpr ⟨g, hg, hp⟩) with q | q
    · subst q
      have e1 : (W.addLob a).la st.nl = a := by rw [← H.nl]; exact if_pos rfl
      rw [e1]
      refine ⟨?_, ?_, vs, m, ha, hv.mono L⟩
      · show st.nl < W.nl + 1; rw [H.nl]; exact Nat.lt_succ_self _
      · rw [rs, H.nl]
    · obtain ⟨h1, h2, us, m0, h3, h4⟩ := H.lstA' q
      have e1 : (W.addLob a).la p.1 = W.la p.1 := L.la _ h1
      rw [e1]
      exact ⟨Nat.lt_succ_of_lt h1, (ne _ (by rw [h2]; intro q; cases q)).trans h2, us, m0, h3, h4.mono L⟩
  · show ((pushL1 st.nl xs st.lst).flatten.map (·.1)).Nodup
    rw [pushL1_fst, List.nodup_cons]
    refine ⟨fun hm => ?_, H.nodup⟩
    obtain ⟨p, hp, e⟩ := List.mem_map.mp hm
    have := (H.lstA' hp).1
    rw [e, H.nl] at this
    exact Nat.lt_irrefl _ this
noncomputable def newLob (xs : List AV) : Cm AV := fun st => if xs.length ≤ 100000 then some (.lob st.nl, { st with lst := pushL1 st.nl xs st.lst, nl := st.nl + 1 }) else .none
theorem Inv.toLob {p : Pl} {W : Wd} {st : AS} {s s' : Shared} {a : Addr} {vs : List Value} {m : Nat} {xs : List AV} (I : Inv c p W st s) (hn : s.heap.get? a = .none) (k : ∀ b o, s.heap.get? b = some o → s'.heap.get? b = some o)
    (ha : s'.heap.get? a = some (listOf vs.toArray m)) (hv : VRs W vs xs) (hg : s'.gens = s.gens) (ho : s'.os = s.os) :
    Inv c p (W.addLob a) { st with lst := pushL1 st.nl xs st.lst, nl := st.nl + 1 } s' ∧ Ext p.Own W s (W.addLob a) s' ∧ VR (W.addLob a) (.ref a) (.lob st.nl) := by
  have hr := I.hr.oth_of_none hn
  have I' : Inv c p W st s' := I.keeps k
  have ot : ∀ b o, s.heap.get? b = some o → (W.addLob a).role b = W.role b := fun b o e => if_neg (show b ≠ a from fun q => by rw [q, hn] at e; cases e)
  refine ⟨⟨I'.hr.addLob hr (I.hr.base_none hn) ha hv, I'.fr.mono (Le.addLob hr) ?_ fun y b q => ?_⟩, ⟨Le.addLob hr, fun b o e => ⟨o, k b o e⟩, fun b o e z => (ot b o e).trans z, fun b o _ _ e => k b o e, hg, ho⟩, ?_⟩
  · obtain ⟨ml, ⟨o, es, ep, q, _⟩, _⟩ := I.fr.ns
    exact (ot _ o q).trans I.fr.roleL
  · obtain ⟨v', o, z, _⟩ := I.fr.cells y b q
    exact (ot _ o z).trans (I.fr.roleC y b q).1
  · have e1 : (W.addLob a).la st.nl = a := by rw [← I.hr.nl]; exact if_pos rfl
    have := VR.lob (W := W.addLob a) st.nl (by show st.nl < W.nl + 1; rw [I.hr.nl]; exact Nat.lt_succ_self _)
    rwa [e1] at this
theorem newLob_ok {p : Pl} {W0 : Wd} {vs : List Value} {xs : List AV} (h : VRs W0 vs xs) : Ok c p W0 (PySem.newList vs) VR (newLob xs) := by
  intro W st s hle I b st' e Q E hQ
  unfold newLob at e
  split at e
  · rename_i hsz
    cases e
    have hl := h.length
    refine wpAny_newObj_type ?_ (by show vs.toArray.size ≤ sizeLine; rw [List.size_toArray, sizeLine_eq]; omega)
    obtain ⟨I', x, r⟩ := I.toLob (s' := { s with heap := s.heap.push (listOf vs.toArray 0) }) (a := s.heap.objs.size) (get_none_of_ge (Nat.le_refl _)) (fun _ _ e => Heap.get?_push_of_some _ e) (Heap.get?_push_size _ rfl) (h.mono hle) rfl rfl
    exact hQ _ _ _ x I' r
  · cases e
theorem ImplE.listMut {es : List Expr} {pos : Pos} {f : Cm (List AV)} (h : ImplEs c n sx es f) : ImplE c n sx (.List es pos) (bd f newLob) := by
  intro p hsx hr W0 W st s hle I b st' e Q E hQ
  obtain ⟨xs, st1, e1, e2⟩ := bd_some e
  refine List_ (h p hsx hr W pos W st s (Le.refl _) I xs st1 e1 _ E fun W1 vs s1 x1 I1 r1 => ?_)
  exact newLob_ok r1 W1 st1 s1 (Le.refl _) I1 b st' e2 Q E fun W2 v s2 x2 I2 r2 => hQ W2 v s2 (x1.trans x2) I2 r2
noncomputable def itemsM : AV → Cm (List AV) := fun x st => match x with
  | .lst xs => some (xs, st)
  | .lob k => (match getL1 k st.lst with | some xs => some (xs, st) | .none => .none)
  | _ => .none
theorem items_at {p : Pl} {W : Wd} {st st' : AS} {s : Shared} (I : Inv c p W st s) {v : Value} {x : AV} {xs : List AV} (hv : VR W v x) (e : itemsM x st = some (xs, st')) :
    st' = st ∧ ∃ a vs m, v = .ref a ∧ s.heap.get? a = some (listOf vs.toArray m) ∧ VRs W vs xs := by
  cases hv with
  | lst h r => simp only [itemsM] at e; cases e; exact ⟨rfl, _, _, _, rfl, I.hr.frz _ _ h, r⟩
  | lob k hk =>
    simp only [itemsM] at e
    split at e
    · rename_i ys hy
      cases e
      obtain ⟨_, _, vs, m, h3, h4⟩ := I.hr.lobAt hy
      exact ⟨rfl, _, vs, m, rfl, h3, h4⟩
    · cases e
  | _ => simp only [itemsM] at e; cases e
end
end Mine

namespace Mine

section
variable {c : Cx} {n : Nat} {sx : Sx}

noncomputable def chkL (x : AV) : Cm Unit := fun st => match itemsM x st with
  | some _ => some ((), st)
  | .none => .none
noncomputable def OkMeth (c : Cx) (n : Nat) (id : String) (F : AV → List AV → Cm AV) : Prop := ∀ p : Pl, Room n p.A → ∀ W0 o x vs xs, VR W0 o x → VRs W0 vs xs → Ok c p W0 (call (.builtin id) (o :: vs)) VR (F x xs)
noncomputable def lmethM (fo : Cm AV) (fs : Cm (List AV)) (F : AV → List AV → Cm AV) : Cm AV := bd fo fun x => bd (chkL x) fun _ => bd fs fun ys => F x ys
theorem ImplE.lmeth {o : Expr} {m : Str} {id : String} {apos pos : Pos} {es : List Expr} {fo : Cm AV} {fs : Cm (List AV)} {F : AV → List AV → Cm AV} (slot : Slot "list" m id) (hty : typeOf (.builtin id) = pure (.type "method_descriptor"))
    (h0 : ImplE c n sx o fo) (h1 : ImplEs c n sx es fs) (h2 : OkMeth c n id F)
    (hb : ∀ env t, attributeBase o m env t = t := by intro _ _; rfl) (hp : es.all plainX = true := by rfl) (hl : (apos.endLine == pos.line) = true := by rfl) (hfew : decide (es.length < 30) = true := by rfl) :
    ImplE c n sx (.Call (.Attribute o m apos) es [] pos) (lmethM fo fs F) := by
  intro p hsx hr W0 W st s hle I b st' e Q E hQ
  obtain ⟨x, st1, e1, e2⟩ := bd_some e
  obtain ⟨u, st1', e3, e4⟩ := bd_some e2
  obtain ⟨ys, st2, e5, e6⟩ := bd_some e4
  rw [arm_eval_Call, hb]
  refine wpAny_bind (h0 p hsx hr W W st s (Le.refl _) I x st1 e1 _ E fun W1 ov s1 x1 I1 r1 => wpAny_bind (wpAny_standAt ?_))
  unfold chkL at e3
  split at e3
  · rename_i xs q
    cases e3
    obtain ⟨xs, st9⟩ := xs
    obtain ⟨_, a, vs, m0, rfl, ho, _⟩ := items_at I1 r1 q
    have hform : methodCallForm (es.length + ([] : List Keyword).length) (backTo pos (starEach es p.env)) (backToKw pos (keywordEach [] p.env)) = true := by
      unfold methodCallForm
      have h1 : (backTo pos (starEach es p.env)).all (fun x => !x.1) = true := by
        have := any_false (env := p.env) (pos := pos) hp
        rw [List.all_eq_not_any_not]; simpa using this
      rw [h1]
      show (true && true && decide (es.length + 0 + 0 < 30)) = true
      simpa using hfew
    have hpos : methodCallPos true o p.env apos pos = pure pos := by unfold methodCallPos; simp [hl]
    unfold methodCall
    rw [hform]
    refine wpAny_bind (wpAny_holding ?_)
    show wpAny _ _ (getMethod (.ref a) m _) _ _ _
    refine getMethod_builtin ⟨_, ho, rfl⟩ PySem.F.plainAttrs_list slot hty (fun a' e => by cases e; exact ⟨_, ho, rfl⟩) ?_
    refine wpAny_bind (wpAny_of_eq hpos ?_)
    refine Calls.callWith_builtin (any_false hp) (evalArgs_row hp ?_)
    refine h1 p hsx hr W1 pos W1 st1 s1 (Le.refl _) I1 ys st2 e5 _ E fun W2 ws s2 x2 I2 r2 => ?_
    exact h2 p hr W2 _ _ _ _ (r1.mono x2.le) r2 W2 st2 s2 (Le.refl _) I2 b st' e6 Q E fun W3 v s3 x3 I3 r3 => hQ W3 v s3 ((x1.trans x2).trans x3) I3 r3
  · cases e3
theorem upd_list {h : Heap} {a : Addr} {its : Array Value} {k : Nat} {f : Array Value → Array Value} (e : h.get? a = some (listOf its k)) : ∃ m, (h.update a (Obj.mapSeq f)).get? a = some (listOf (f its) m) :=
  ⟨_, Heap.get?_update_self _ e rfl⟩
noncomputable def appendM : AV → List AV → Cm AV := fun x ys st => match x, ys with
  | .lob k, [y] => (match getL1 k st.lst with
      | some xs => if xs.length ≤ 100000 then some (.none, { st with lst := putL1 k (xs ++ [y]) st.lst }) else .none
      | .none => .none)
  | _, _ => .none
theorem append_ok : OkMeth c n "list.append" appendM := by
  intro p hr W0 o x vs xs ho hvs W st s hle I b st' e Q E hQ
  cases ho.mono hle with
  | lob k hk =>
    cases hvs.mono hle with
    | nil => cases e
    | cons hy hr' =>
      cases hr' with
      | cons _ _ => cases e
      | nil =>
        simp only [appendM] at e
        split at e
        · rename_i zs hz
          split at e
          · rename_i hsz
            cases e
            obtain ⟨_, _, us, m, h3, h4⟩ := I.hr.lobAt hz
            have hl := h4.length
            refine call_meets PySem.F.slot_list_append ⟨_, h3, rfl⟩ PySem.F.entry_list_append (PySem.F.args_list_append_2 _ _) (list_append _ us.toArray m _ (by rw [List.size_toArray, sizeLine_eq]; omega)) ⟨h3, ?_⟩
            obtain ⟨m', e'⟩ := upd_list (f := fun z => z.push _) h3
            rw [List.push_toArray] at e'
            obtain ⟨I', x'⟩ := lob_change (tk := s.toks) I hz e' (Heap.SameBut.update ..) (h4.append (.one hy))
            exact hQ W _ _ x' I' .none
          · cases e
        · cases e
  | _ => cases e
noncomputable def extendM : AV → List AV → Cm AV := fun x ys st => match x, ys with
  | .lob k, [y] => (match getL1 k st.lst, itemsM y st with
      | some xs, some (zs, _) => if xs.length + zs.length ≤ 100000 then some (.none, { st with lst := putL1 k (xs ++ zs) st.lst }) else .none
      | _, _ => .none)
  | _, _ => .none
theorem extend_ok : OkMeth c n "list.extend" extendM := by
  intro p hr W0 o x vs xs ho hvs W st s hle I b st' e Q E hQ
  cases ho.mono hle with
  | lob k hk =>
    cases hvs.mono hle with
    | nil => cases e
    | cons hy hr' =>
      cases hr' with
      | cons _ _ => cases e
      | nil =>
        simp only [extendM] at e
        split at e
        · rename_i zs ws st2 hz hw
          split at e
          · rename_i hsz
            cases e
            obtain ⟨_, _, us, m, h3, h4⟩ := I.hr.lobAt hz
            obtain ⟨_, a, ts, m2, rfl, h5, h6⟩ := items_at I hy hw
            have hl := h4.length
            have hl2 := h6.length
            have hs' : us.toArray.size + ts.toArray.size ≤ sizeLine := by rw [List.size_toArray, List.size_toArray, sizeLine_eq]; omega
            refine call_meets PySem.F.slot_list_extend ⟨_, h3, rfl⟩ PySem.F.entry_list_extend (PySem.F.args_list_extend_2 _ _) (AutoSeq1.list_extend_list_list_0 _ us.toArray m a ts.toArray m2 (extend_door hs') (Nat.le_trans (Nat.le_add_right _ _) hs') (Nat.le_succ_of_le hs')) ⟨h3, h5, ?_⟩
            obtain ⟨m', e'⟩ := upd_list (f := fun z => z ++ ts.toArray) h3
            rw [show us.toArray ++ ts.toArray = (us ++ ts).toArray from by simp] at e'
            obtain ⟨I', x'⟩ := lob_change (tk := s.toks) I hz e' (Heap.SameBut.update ..) (h4.append h6)
            exact hQ W _ _ x' I' .none
          · cases e
        · cases e
  | _ => cases e
end
end Mine

namespace Mine

section
variable {c : Cx} {n : Nat} {sx : Sx}

noncomputable def AV.int? : AV → Option Int
  | .int i => some i
  | _ => .none
theorem AV.int_of {x : AV} {i : Int} (h : x.int? = some i) : x = .int i := by
  unfold AV.int? at h
  split at h
  · cases h; rfl
  · cases h
noncomputable def idxM (xs : List AV) (i : Int) : Option AV := if 0 ≤ i then xs[i.toNat]? else if 0 ≤ i + xs.length then xs[(i + xs.length).toNat]? else .none
noncomputable def getItemM : AV → AV → Cm AV := fun o i st => match i.int?, itemsM o st with
  | some i, some (xs, _) => if xs.length ≤ 100000 then (match idxM xs i with | some v => some (v, st) | .none => .none) else .none
  | _, _ => .none
theorem getItem_inv {o y : AV} {st st' : AS} {b : AV} (e : getItemM o y st = some (b, st')) : ∃ i xs q, y = .int i ∧ itemsM o st = some (xs, q) ∧ xs.length ≤ 100000 ∧ idxM xs i = some b ∧ st' = st := by
  unfold getItemM at e
  split at e
  · rename_i i xs q h1 h2
    split at e
    · rename_i hl
      cases z : idxM xs i with
      | none => rw [z] at e; cases e
      | some v => rw [z] at e; cases e; exact ⟨i, xs, q, AV.int_of h1, h2, hl, z, rfl⟩
    · cases e
  · cases e
theorem getItem_ok {p : Pl} {value slice : Expr} {W0 : Wd} {o i : Value} {x y : AV} (ho : VR W0 o x) (hi : VR W0 i y) (hs : ∀ o i, subscripted slice false o i = operate [o, i] (getItem o i)) : Ok c p W0 (subscriptTail value slice o i) VR (getItemM x y) := by
  intro W st s hle I b st' e Q E hQ
  obtain ⟨i, xs, q, rfl, he, hsz, hv, rfl⟩ := getItem_inv e
  obtain ⟨t, rfl⟩ := hi.inv_int
  obtain ⟨_, a, vs, m, rfl, h3, h4⟩ := items_at I (ho.mono hle) he
  have hl := h4.length
  unfold idxM at hv
  by_cases h0 : 0 ≤ i
  · rw [if_pos h0] at hv
    obtain ⟨w, hw, r⟩ := h4.get hv
    have hlt : i.toNat < xs.length := (List.getElem?_eq_some_iff.mp hv).1
    exact tail_any (T := "list") ⟨_, h3, rfl⟩ slot_list_getitem.lookup (wpAny_getItem_list ⟨_, h3, rfl, _, rfl⟩ h0 (by omega) (by rw [List.getElem?_toArray]; exact hw) (hQ W w s (Ext.refl ..) I r)) (hs _ _)
  · rw [if_neg h0] at hv
    by_cases h1 : 0 ≤ i + xs.length
    · rw [if_pos h1] at hv
      obtain ⟨w, hw, r⟩ := h4.get hv
      exact tail_any (T := "list") ⟨_, h3, rfl⟩ slot_list_getitem.lookup (wpAny_getItem_list_neg ⟨_, h3, rfl, _, rfl⟩ (by omega) (by rw [List.size_toArray]; omega) (by omega) (by rw [List.size_toArray, List.getElem?_toArray, hl]; exact hw) (hQ W w s (Ext.refl ..) I r)) (hs _ _)
    · rw [if_neg h1] at hv; cases hv
noncomputable def notSlice : Expr → Bool
  | .Slice .. => false
  | _ => true
theorem sub_plain {slice : Expr} (h : notSlice slice = true) (o i : Value) : subscripted slice false o i = operate [o, i] (getItem o i) := by
  cases slice <;> first | rfl | cases h
noncomputable def lenM : List AV → Cm AV := fun xs st => match xs with
  | [x] => (match itemsM x st with | some (ys, _) => if ys.length ≤ 100000 then some (.int ys.length, st) else .none | .none => .none)
  | _ => .none
theorem len_ok : OkCall c n (.builtin "len") lenM := by
  intro p hr W0 vs xs hv W st s hle I b st' e Q E hQ
  unfold lenM at e
  split at e
  · split at e
    · rename_i ys q he
      split at e
      · rename_i hsz
        cases e
        cases hv with
        | cons h1 h2 =>
          cases h2
          obtain ⟨_, a, us, m, rfl, h3, h4⟩ := items_at I (h1.mono hle) he
          have hl := h4.length
          refine len_list (items := us.toArray) ⟨_, h3, rfl, _, rfl⟩ (by rw [List.size_toArray]; omega) ?_
          rw [List.size_toArray, hl]
          exact hQ W _ _ ((Ext.refl ..).toks _) (I.toks _) (.int _ _)
      · cases e
    · cases e
  · cases e
noncomputable def items2M : AV → Cm (List AV) := fun x st => match x with
  | .lsb xs => some (xs, st)
  | x => itemsM x st
theorem items2_at {p : Pl} {W : Wd} {st st' : AS} {s : Shared} (I : Inv c p W st s) {v : Value} {x : AV} {xs : List AV} (hv : VR W v x) (e : items2M x st = some (xs, st')) :
    ∃ a vs, v = .ref a ∧ s.heap.IsList a (List.toArray vs) ∧ VRs W vs xs := by
  cases hv with
  | lsb h h1 h2 r => simp only [items2M] at e; cases e; exact ⟨_, _, rfl, ⟨_, I.hr.frz _ _ h, h1, _, h2⟩, r⟩
  | lst h r => obtain ⟨_, a, vs, m, e1, e2, e3⟩ := items_at I (.lst h r) e; exact ⟨a, vs, e1, ⟨_, e2, rfl, _, rfl⟩, e3⟩
  | lob k hk => obtain ⟨_, a, vs, m, e1, e2, e3⟩ := items_at I (.lob k hk) e; exact ⟨a, vs, e1, ⟨_, e2, rfl, _, rfl⟩, e3⟩
  | _ => simp only [items2M, itemsM] at e; cases e
noncomputable def addLM : AV → AV → Cm AV := fun x y st => match itemsM x st, items2M y st with
  | some (xs, _), some (ys, _) => if xs.length + ys.length ≤ 100000 then some (.lst (xs ++ ys), st) else .none
  | _, _ => .none
theorem addL_ok : OkBin c n .Add addLM := by
  intro p hr W0 a b x y ha hb W st s hle I v st' e Q E hQ
  unfold addLM at e
  split at e
  · rename_i xs q1 ys q2 h1 h2
    split at e
    · rename_i hsz
      cases e
      obtain ⟨_, l, vs, m, rfl, h3, h4⟩ := items_at I (ha.mono hle) h1
      obtain ⟨l2, ws, rfl, ⟨⟨cls2, dd2, data2, sl2⟩, ho2, hc2, n2, hd2⟩, h6⟩ := items2_at I (hb.mono hle) h2
      simp only at hc2 hd2
      subst hc2 hd2
      have e1 : vs.toArray ++ ws.toArray = (vs ++ ws).toArray := by simp
      have l1 := h4.length
      have l2 := h6.length
      refine concat_meets ⟨_, h3, rfl⟩ ⟨_, ho2, rfl⟩ noFill_list_add seq_list_add PySem.F.slot_list_add PySem.F.entry_list_add (PySem.F.args_list_add_2 _ _) (list_addW _ _ vs.toArray ws.toArray m n2 .none dd2 #[] sl2 (by rw [List.size_toArray, List.size_toArray, sizeLine_eq]; omega)) ⟨h3, ho2, ?_⟩
      rw [e1]
      obtain ⟨I', x'⟩ := I.pushFrz (listOf (vs ++ ws).toArray 0) s.toks
      exact hQ _ _ _ x' I' (.lst (n := 0) Wd.set_self ((h4.append h6).mono x'.le))
    · cases e
  · cases e
noncomputable def mulLM : AV → AV → Cm AV := fun x y st => match y.int? with
  | some k => (match itemsM x st with
    | some (xs, _) => if 0 ≤ k ∧ k ≤ 100000 ∧ xs.length * k.toNat ≤ 100000 then some (.lst (List.replicate k.toNat xs).flatten, st) else .none
    | .none => .none)
  | .none => .none
theorem VRs.flat {W : Wd} {vs : List Value} {xs : List AV} (h : VRs W vs xs) : ∀ k : Nat, VRs W (List.replicate k vs).flatten (List.replicate k xs).flatten
  | 0 => .nil
  | k + 1 => by rw [List.replicate_succ, List.replicate_succ, List.flatten_cons, List.flatten_cons]; exact h.append (h.flat k)
theorem mulL_ok : OkBin c n .Mult mulLM := by
  intro p hr W0 a b x y ha hb W st s hle I v st' e Q E hQ
  unfold mulLM at e
  split at e
  · rename_i k ek
    obtain rfl := AV.int_of ek
    obtain ⟨t, rfl⟩ := hb.inv_int
    split at e
    · rename_i xs q1 h1
      split at e
      · rename_i hk
        cases e
        obtain ⟨_, l, vs, m, rfl, h3, h4⟩ := items_at I (ha.mono hle) h1
        have hl := h4.length
        obtain ⟨k0, k1, k2⟩ := hk
        have k3 : vs.length * k.toNat ≤ 100000 := by rw [hl]; exact k2
        have k4 : vs.toArray.size * k.toNat ≤ 100000 := by rw [List.size_toArray]; exact k3
        refine wpAny_binaryOp_repeat_ref (T := "list") (U := "int") (by decide) ⟨_, h3, rfl⟩ (fun s' => typeIs_int s' k t) noFill_list_mul F.fills_int_mul F.slot_int_rmul repeat_list F.slot_int_index.lookup
          (call_meets F.slot_int_rmul (typeIs_int s k t) F.entry_int_rmul (F.args_int_rmul_2 _ _) (int___rmul___int_list k t l vs.toArray m)
            ⟨h3, rfl, ⟨_, h3, rfl⟩, call_meets F.slot_list_mul ⟨_, h3, rfl⟩ F.entry_list_mul (F.args_list_mul_2 _ _)
              (AutoListH.list___mul___list_int_3 l vs.toArray m k t (by simp [Builtin.List.listFitsIndex]; omega) (by omega) (by simp [Builtin.List.listTooLong, sizeLine]; omega))
              ⟨h3, ?_⟩⟩)
        rw [listMul_foldl_if]
        obtain ⟨I', x'⟩ := I.pushFrz (listOf (List.replicate k.toNat vs).flatten.toArray 0) s.toks
        exact hQ _ _ _ x' I' (.lst (n := 0) Wd.set_self ((h4.flat _).mono x'.le))
      · cases e
    · cases e
  · cases e
end
end Mine

namespace Mine

noncomputable def eqAll (f : AV → AV → Option Bool) : List AV → List AV → Option Bool
  | [], [] => some true
  | x :: xs, y :: ys => (match f x y with
      | some a => (match eqAll f xs ys with | some b => some (a && b) | .none => .none)
      | .none => .none)
  | _, _ => some false
theorem eqAll_idx {W : Wd} {f : AV → AV → Option Bool} {P : Value → Value → Bool → Prop} (hf : ∀ v w x y b, VR W v x → VR W w y → f x y = some b → P v w b) : ∀ {vs ws : List Value} {xs ys : List AV} {b : Bool}, VRs W vs xs → VRs W ws ys → eqAll f xs ys = some b → vs.length = ws.length →
    ∃ e : Nat → Bool, (∀ j (h1 : j < vs.length) (h2 : j < ws.length), P vs[j] ws[j] (e j)) ∧ (List.range vs.length).all e = b
  | _, _, _, _, b, .nil, .nil, h, _ => by cases h; exact ⟨fun _ => true, fun j h1 _ => absurd h1 (Nat.not_lt_zero _), rfl⟩
  | _, _, _, _, b, .nil, .cons _ _, _, hl => by cases hl
  | _, _, _, _, b, .cons _ _, .nil, _, hl => by cases hl
  | v :: vs, w :: ws, x :: xs, y :: ys, b, .cons a1 r1, .cons a2 r2, h, hl => by
    simp only [eqAll] at h
    split at h
    · rename_i a ha
      split at h
      · rename_i b' hb
        cases h
        obtain ⟨e, h1, h2⟩ := eqAll_idx hf r1 r2 hb (by simpa using hl)
        refine ⟨fun j => match j with | 0 => a | j + 1 => e j, fun j q1 q2 => ?_, ?_⟩
        · cases j with
          | zero => exact hf v w x y a a1 a2 ha
          | succ j => exact h1 j (by simpa using q1) (by simpa using q2)
        · rw [List.length_cons, List.range_succ_eq_map, List.all_cons, List.all_map]
          rw [← h2]; rfl
      · cases h
    · cases h
section
variable {c : Cx} {n : Nat} {sx : Sx}
open PySem.SeqAt

inductive Sc where
  | cn
  | cb (b : Bool)
  | ci (i : Int)
  | cs (s : Str)
  | cy (s : Array UInt8)
noncomputable def AV.sc : AV → Option Sc
  | .none => some .cn
  | .bool b => some (.cb b)
  | .int i => some (.ci i)
  | .str s => some (.cs s)
  | .bytes s => some (.cy s)
  | _ => .none
noncomputable def Sc.Of (v : Value) : Sc → Prop
  | .cn => v = .none
  | .cb b => v = .bool b
  | .ci i => ∃ t, v = .int i t
  | .cs x => ∃ t, v = .str x t
  | .cy x => ∃ t, v = .bytes x t
theorem VR.sc {W : Wd} {v : Value} {x : AV} {k : Sc} (h : VR W v x) (e : x.sc = some k) : Sc.Of v k := by
  unfold AV.sc at e
  split at e
  · cases e; exact h.inv_none
  · cases e; exact h.inv_bool
  · cases e; exact h.inv_int
  · cases e; exact h.inv_str
  · cases e; exact h.inv_bytes
  · cases e
noncomputable def Sc.eq : Sc → Sc → Option Bool
  | .cn, .cn => some true
  | .cb a, .cb c => some (a == c)
  | .ci a, .ci c => some (a == c)
  | .cs a, .cs c => some (a == c)
  | .cb _, .ci _ => .none
  | .ci _, .cb _ => .none
  | .cy a, .cy c => some (a.toList == c.toList)
  | .cy _, _ => .none
  | _, .cy _ => .none
  | _, _ => some false
theorem rc_bytes {A : Around} {s : Shared} {a b : Array UInt8} {t u : Tok} : RcAt A s (.bytes a t) (.bytes b u) (a.toList == b.toList) := fun prog w E Q h => eq_bytes h
theorem eq_bytesAt {A : Around} {s : Shared} {a b : Array UInt8} {t u : Tok} : EqAt A s (.bytes a t) (.bytes b u) (a.toList == b.toList) := fun prog w E Q h => by
  unfold eqBool
  refine wpAny_holding ?_
  refine wpAny_ite_split (fun hab => ?_) (fun _ => ?_)
  · have e : a = b := by have := eq_of_beq hab; injection this
    subst e
    exact wpAny_bind (wpAny_rule (wpAny_pure (by simpa using h)))
  · exact wpAny_bind (rc_bytes prog w E _ (wpAny_truthy_bool h))
theorem Sc.eq_at {A : Around} {s : Shared} {v w : Value} {a d : Sc} {b : Bool} (hv : Sc.Of v a) (hw : Sc.Of w d) (e : a.eq d = some b) : EqAt A s v w b ∧ RcAt A s v w b ∧ RcNeAt A s v w (!b) := by
  cases a with
  | cn =>
    obtain rfl := hv
    cases d with
    | cn => cases e; obtain rfl := hw; exact ⟨EqAt.same _, RcAt.none_none, RcNeAt.none_none⟩
    | cb _ => cases e; obtain rfl := hw; exact ⟨EqAt.none_bool _, RcAt.none_bool _, RcNeAt.none_bool _⟩
    | ci _ => cases e; obtain ⟨_, rfl⟩ := hw; exact ⟨EqAt.none_int _ _, RcAt.none_int _ _, RcNeAt.none_int _ _⟩
    | cy _ => cases e
    | cs _ => cases e; obtain ⟨_, rfl⟩ := hw; exact ⟨EqAt.none_str _ _, RcAt.none_str _ _, RcNeAt.none_str _ _⟩
  | cb a =>
    obtain rfl := hv
    cases d with
    | cn => cases e; obtain rfl := hw; exact ⟨EqAt.bool_none _, RcAt.bool_none _, RcNeAt.bool_none _⟩
    | cb _ => cases e; obtain rfl := hw; exact ⟨EqAt.bool_bool _ _, RcAt.bool_bool _ _, RcNeAt.bool_bool _ _⟩
    | ci _ => cases e
    | cy _ => cases e
    | cs _ => cases e; obtain ⟨_, rfl⟩ := hw; exact ⟨EqAt.bool_str _ _ _, RcAt.bool_str _ _ _, RcNeAt.bool_str _ _ _⟩
  | ci a =>
    obtain ⟨_, rfl⟩ := hv
    cases d with
    | cn => cases e; obtain rfl := hw; exact ⟨EqAt.int_none _ _, RcAt.int_none _ _, RcNeAt.int_none _ _⟩
    | cb _ => cases e
    | ci _ => cases e; obtain ⟨_, rfl⟩ := hw; exact ⟨EqAt.int_int _ _ _ _, RcAt.int_int _ _ _ _, RcNeAt.int_int _ _ _ _⟩
    | cy _ => cases e
    | cs _ => cases e; obtain ⟨_, rfl⟩ := hw; exact ⟨EqAt.int_str _ _ _ _, RcAt.int_str _ _ _ _, RcNeAt.int_str _ _ _ _⟩
  | cs a =>
    obtain ⟨_, rfl⟩ := hv
    cases d with
    | cn => cases e; obtain rfl := hw; exact ⟨EqAt.str_none _ _, RcAt.str_none _ _, RcNeAt.str_none _ _⟩
    | cb _ => cases e; obtain rfl := hw; exact ⟨EqAt.str_bool _ _ _, RcAt.str_bool _ _ _, RcNeAt.str_bool _ _ _⟩
    | ci _ => cases e; obtain ⟨_, rfl⟩ := hw; exact ⟨EqAt.str_int _ _ _ _, RcAt.str_int _ _ _ _, RcNeAt.str_int _ _ _ _⟩
    | cy _ => cases e
    | cs _ => cases e; obtain ⟨_, rfl⟩ := hw; exact ⟨EqAt.str_str _ _ _ _, RcAt.str_str _ _ _ _, RcNeAt.str_str _ _ _ _⟩
  | cy a =>
    obtain ⟨_, rfl⟩ := hv
    cases d with
    | cy _ => cases e; obtain ⟨_, rfl⟩ := hw; exact ⟨eq_bytesAt, rc_bytes, fun prog w E Q q => ne_bytes q⟩
    | _ => cases e
theorem Sc.one {v : Value} {a d : Sc} (hv : Sc.Of v a) (hw : Sc.Of v d) : a = d := by
  cases a with
  | cn => obtain rfl := hv; cases d with | cn => rfl | cb _ => cases hw | ci _ => obtain ⟨_, q⟩ := hw; cases q | cs _ => obtain ⟨_, q⟩ := hw; cases q | cy _ => obtain ⟨_, q⟩ := hw; cases q
  | cb _ => obtain rfl := hv; cases d with | cn => cases hw | cb _ => cases hw; rfl | ci _ => obtain ⟨_, q⟩ := hw; cases q | cs _ => obtain ⟨_, q⟩ := hw; cases q | cy _ => obtain ⟨_, q⟩ := hw; cases q
  | ci _ => obtain ⟨_, rfl⟩ := hv; cases d with | cn => cases hw | cb _ => cases hw | ci _ => obtain ⟨_, q⟩ := hw; cases q; rfl | cs _ => obtain ⟨_, q⟩ := hw; cases q | cy _ => obtain ⟨_, q⟩ := hw; cases q
  | cs _ => obtain ⟨_, rfl⟩ := hv; cases d with | cn => cases hw | cb _ => cases hw | ci _ => obtain ⟨_, q⟩ := hw; cases q | cs _ => obtain ⟨_, q⟩ := hw; cases q; rfl | cy _ => obtain ⟨_, q⟩ := hw; cases q
  | cy _ => obtain ⟨_, rfl⟩ := hv; cases d with | cn => cases hw | cb _ => cases hw | ci _ => obtain ⟨_, q⟩ := hw; cases q | cs _ => obtain ⟨_, q⟩ := hw; cases q | cy _ => obtain ⟨_, q⟩ := hw; cases q; rfl
theorem Sc.self {a : Sc} : a.eq a = some true := by cases a <;> first | rfl | exact congrArg some (beq_self_eq_true _)
noncomputable def AV.tup? : AV → Option (List AV)
  | .tup xs => some xs
  | _ => .none
theorem AV.tup_of {x : AV} {xs : List AV} (h : x.tup? = some xs) : x = .tup xs := by
  unfold AV.tup? at h
  split at h
  · cases h; rfl
  · cases h
theorem VR.inv_tup {W : Wd} {v : Value} {xs : List AV} (h : VR W v (.tup xs)) : ∃ a o vs n, v = .ref a ∧ W.role a = .frz o ∧ o.cls = .type "tuple" ∧ o.data = .seq (List.toArray vs) n ∧ VRs W vs xs := by
  cases h with | tup h1 h2 h3 h4 => exact ⟨_, _, _, _, rfl, h1, h2, h3, h4⟩
noncomputable def eqF (st : AS) : Nat → AV → AV → Option Bool
  | 0, _, _ => .none
  | d + 1, x, y => (match x.sc, y.sc with
    | some a, some b => a.eq b
    | _, _ => (match x.tup?, y.tup? with
      | some xs, some ys => if xs.length = ys.length then eqAll (eqF st d) xs ys else .none
      | _, _ => (match itemsM x st, itemsM y st with
        | some (xs, _), some (ys, _) => if xs.length = ys.length then eqAll (eqF st d) xs ys else some false
        | _, _ => .none)))
theorem eqF_inv {st : AS} {d : Nat} {x y : AV} {b : Bool} (h : eqF st (d + 1) x y = some b) : (∃ a c, x.sc = some a ∧ y.sc = some c ∧ a.eq c = some b) ∨ (∃ xs ys, x = .tup xs ∧ y = .tup ys ∧ xs.length = ys.length ∧ eqAll (eqF st d) xs ys = some b) ∨
    ∃ xs ys q1 q2, itemsM x st = some (xs, q1) ∧ itemsM y st = some (ys, q2) ∧ (if xs.length = ys.length then eqAll (eqF st d) xs ys else some false) = some b := by
  rw [eqF] at h
  split at h
  · rename_i a c h1 h2; exact .inl ⟨a, c, h1, h2, h⟩
  · split at h
    · rename_i xs ys h1 h2
      split at h
      · rename_i hl; exact .inr (.inl ⟨xs, ys, AV.tup_of h1, AV.tup_of h2, hl, h⟩)
      · cases h
    · split at h
      · rename_i xs q1 ys q2 h1 h2; exact .inr (.inr ⟨xs, ys, q1, q2, h1, h2, h⟩)
      · cases h
theorem eqAll_inv {f : AV → AV → Option Bool} {x y : AV} {xs ys : List AV} {b : Bool} (h : eqAll f (x :: xs) (y :: ys) = some b) : ∃ a c, f x y = some a ∧ eqAll f xs ys = some c ∧ b = (a && c) := by
  simp only [eqAll] at h
  split at h
  · rename_i a ha
    split at h
    · rename_i c hc; cases h; exact ⟨a, c, ha, hc, rfl⟩
    · cases h
  · cases h
theorem eqAll_self {W : Wd} {f : AV → AV → Option Bool} (hf : ∀ v x y b, VR W v x → VR W v y → f x y = some b → b = true) : ∀ {vs : List Value} {xs ys : List AV} {b : Bool}, VRs W vs xs → VRs W vs ys → eqAll f xs ys = some b → b = true
  | _, _, _, b, .nil, .nil, h => by cases h; rfl
  | v :: vs, x :: xs, y :: ys, b, .cons a1 r1, .cons a2 r2, h => by
    obtain ⟨a, c, h1, h2, rfl⟩ := eqAll_inv h
    rw [hf v x y a a1 a2 h1, eqAll_self hf r1 r2 h2]; rfl
theorem eqF_self {p : Pl} {W : Wd} {st : AS} {s : Shared} (I : Inv c p W st s) : ∀ (d : Nat) (v : Value) (x y : AV) (b : Bool), VR W v x → VR W v y → eqF st d x y = some b → b = true
  | 0, _, _, _, _, _, _, h => by cases h
  | d + 1, v, x, y, b, hx, hy, h => by
    rcases eqF_inv h with ⟨a, k, h1, h2, h3⟩ | ⟨xs, ys, rfl, rfl, hl, h3⟩ | ⟨xs, ys, q1, q2, h1, h2, h3⟩
    · obtain rfl := Sc.one (hx.sc h1) (hy.sc h2)
      rw [Sc.self] at h3; exact (Option.some.inj h3).symm
    · obtain ⟨l1, o1, us, m1, rfl, g1, t1, t2, r1⟩ := hx.inv_tup
      obtain ⟨l2, o2, ts, m2, e, g2, t3, t4, r2⟩ := hy.inv_tup
      cases e
      rw [g1] at g2
      cases g2
      rw [t2] at t4
      cases t4
      exact eqAll_self (fun v x y b h1 h2 h3 => eqF_self I d v x y b h1 h2 h3) r1 r2 h3
    · obtain ⟨_, l1, us, m1, rfl, g1, r1⟩ := items_at I hx h1
      obtain ⟨_, l2, ts, m2, e, g2, r2⟩ := items_at I hy h2
      cases e
      rw [g1] at g2
      cases g2
      rw [if_pos (by rw [← r1.length, ← r2.length])] at h3
      exact eqAll_self (fun v x y b h1 h2 h3 => eqF_self I d v x y b h1 h2 h3) r1 r2 h3
theorem eqF_ok {p : Pl} {W : Wd} {st : AS} {s : Shared} (I : Inv c p W st s) : ∀ (d : Nat) {A : Around} {v w : Value} {x y : AV} {b : Bool}, A.units + d < cLine → VR W v x → VR W w y → eqF st d x y = some b →
    EqAt A s v w b ∧ RcAt A s v w b ∧ RcNeAt A s v w (!b)
  | 0, _, _, _, _, _, _, _, _, _, h => by cases h
  | d + 1, A, v, w, x, y, b, hu, hv, hw, h => by
    have hself : v = w → b = true := fun q => by subst q; exact eqF_self I (d + 1) v x y b hv hw h
    have ih : ∀ v w x y b, VR W v x → VR W w y → eqF st d x y = some b → EqAt A.in1 s v w b := fun v w x y b h1 h2 h3 => (eqF_ok I d (A := A.in1) (by show A.units + 1 + d < cLine; omega) h1 h2 h3).1
    have hu' : A.units < cLine := Nat.lt_of_le_of_lt (Nat.le_add_right _ _) hu
    rcases eqF_inv h with ⟨a, k, h1, h2, h3⟩ | ⟨xs, ys, rfl, rfl, hl, h3⟩ | ⟨xs, ys, q1, q2, h1, h2, h3⟩
    · exact Sc.eq_at (hv.sc h1) (hw.sc h2) h3
    · obtain ⟨l1, o1, us, m1, rfl, g1, t1, t2, r1⟩ := hv.inv_tup
      obtain ⟨l2, o2, ts, m2, rfl, g2, t3, t4, r2⟩ := hw.inv_tup
      have hl' : us.length = ts.length := by rw [r1.length, r2.length, hl]
      obtain ⟨e, he, hb⟩ := eqAll_idx ih r1 r2 h3 hl'
      have he' : ∀ j (h1 : j < us.toArray.size) (h2 : j < ts.toArray.size), EqAt A.in1 s us.toArray[j] ts.toArray[j] (e j) := fun j h1 h2 => he j h1 h2
      have R := RcAt.tuples (I.hr.isTuple g1 t1 t2) (I.hr.isTuple g2 t3 t4) hu' he'
      have N := RcNeAt.tuples (I.hr.isTuple g1 t1 t2) (I.hr.isTuple g2 t3 t4) hu' he'
      rw [List.size_toArray, List.size_toArray, ← hl', Nat.min_self, hb] at R N
      simp only [beq_self_eq_true, Bool.and_true] at R N
      refine ⟨?_, R, N⟩
      by_cases hne : l1 = l2
      · subst hne; rw [hself rfl]; exact EqAt.same _
      · exact EqAt.of_refs hne R
    · obtain ⟨_, l1, us, m1, rfl, g1, r1⟩ := items_at I hv h1
      obtain ⟨_, l2, ts, m2, rfl, g2, r2⟩ := items_at I hw h2
      have L1 : s.heap.IsList l1 us.toArray := ⟨_, g1, rfl, _, rfl⟩
      have L2 : s.heap.IsList l2 ts.toArray := ⟨_, g2, rfl, _, rfl⟩
      have eqOf : RcAt A s (.ref l1) (.ref l2) b → EqAt A s (.ref l1) (.ref l2) b := fun R => by
        by_cases hne : l1 = l2
        · subst hne; rw [hself rfl]; exact EqAt.same _
        · exact EqAt.of_refs hne R
      split at h3
      · rename_i hl
        have hl' : us.length = ts.length := by rw [r1.length, r2.length, hl]
        obtain ⟨e, he, hb⟩ := eqAll_idx ih r1 r2 h3 hl'
        have hsz : us.toArray.size = ts.toArray.size := by rw [List.size_toArray, List.size_toArray, hl']
        have he' : ∀ j (h1 : j < us.toArray.size) (h2 : j < ts.toArray.size), EqAt A.in1 s us.toArray[j] ts.toArray[j] (e j) := fun j h1 h2 => he j h1 h2
        have R := RcAt.lists L1 L2 hsz hu' he'
        have N := RcNeAt.lists L1 L2 hsz hu' he'
        rw [List.size_toArray, hb] at R N
        exact ⟨eqOf R, R, N⟩
      · rename_i hl
        cases h3
        have hsz : (us.toArray.size != ts.toArray.size) = true := by rw [List.size_toArray, List.size_toArray, r1.length, r2.length]; exact bne_iff_ne.mpr hl
        have R := RcAt.lists_lengths L1 L2 hsz hu'
        exact ⟨eqOf R, R, RcNeAt.lists_lengths L1 L2 hsz hu'⟩
noncomputable def eqM : AV → AV → Cm Bool := fun x y st => match eqF st 8 x y with
  | some b => some (b, st)
  | .none => .none
noncomputable def neM : AV → AV → Cm Bool := fun x y st => match eqF st 8 x y with
  | some b => some (!b, st)
  | .none => .none
theorem eq_ok : OkCmp c n .Eq eqM := by
  intro p hr W0 a b x y ha hb W st s hle I r st' e Q E hQ
  unfold eqM at e
  split at e
  · rename_i bb h
    cases e
    exact (eqF_ok I 8 (by have := hr.units; omega) (ha.mono hle) (hb.mono hle) h).2.1 _ _ E Q (hQ W _ s (Ext.refl ..) I rfl)
  · cases e
theorem ne_ok : OkCmp c n .NotEq neM := by
  intro p hr W0 a b x y ha hb W st s hle I r st' e Q E hQ
  unfold neM at e
  split at e
  · rename_i bb h
    cases e
    exact (eqF_ok I 8 (by have := hr.units; omega) (ha.mono hle) (hb.mono hle) h).2.2 _ _ E Q (hQ W _ s (Ext.refl ..) I rfl)
  · cases e
end
end Mine

namespace Mine

section
variable {c : Cx} {n : Nat} {sx : Sx}

theorem ImplE.cbytes {x : List UInt8} {k : Nat} {pos : Pos} : ImplE c n sx (.Constant (.bytes x) k pos) (pu (.bytes x.toArray)) := by
  intro p _ _ W0 W st s hle I b st' e Q E hQ; cases e
  exact Constant_bytes (hQ W _ _ ((Ext.refl ..).toks _) (I.toks _) (.bytes _ _))
noncomputable def int2 {α : Type} (f : Int → Int → Cm α) (x y : AV) : Cm α := match x.int?, y.int? with
  | some a, some b => f a b
  | _, _ => no
theorem int2_inv {α : Type} {f : Int → Int → Cm α} {x y : AV} {st : AS} {r : α × AS} (h : int2 f x y st = some r) : ∃ a b, x = .int a ∧ y = .int b ∧ f a b st = some r := by
  unfold int2 at h
  cases q1 : x.int? with
  | none => rw [q1] at h; cases h
  | some a =>
    cases q2 : y.int? with
    | none => rw [q1, q2] at h; cases h
    | some b => rw [q1, q2] at h; exact ⟨a, b, AV.int_of q1, AV.int_of q2, h⟩
theorem OkBin.int {op : Operator} {f : Int → Int → Cm AV} (h : ∀ p : Pl, Room n p.A → ∀ W i t j u, Ok c p W (binaryOp op (.int i t) (.int j u)) VR (f i j)) : OkBin c n op (int2 f) := by
  intro p hr W0 a b x y ha hb W st s hle I v st' e Q E hQ
  obtain ⟨i, j, rfl, rfl, e⟩ := int2_inv e
  obtain ⟨t, rfl⟩ := ha.inv_int
  obtain ⟨u, rfl⟩ := hb.inv_int
  exact h p hr W i t j u W st s (Le.refl _) I v st' e Q E hQ
theorem OkCmp.int {op : CmpOp} {f : Int → Int → Bool} (h : ∀ (A : Around) (E : Value → Shared → Prop) (s : Shared) i t j u (Q : Value → Shared → Prop), Q (.bool (f i j)) s → wpAny (model c.prog c.w) A (compareOp op (.int i t) (.int j u)) Q E s) : OkCmp c n op (int2 fun a b => pu (f a b)) := by
  intro p hr W0 a b x y ha hb W st s hle I v st' e Q E hQ
  obtain ⟨i, j, rfl, rfl, e⟩ := int2_inv e
  obtain ⟨t, rfl⟩ := ha.inv_int
  obtain ⟨u, rfl⟩ := hb.inv_int
  cases e
  exact h _ _ _ _ _ _ _ _ (hQ W _ s (Ext.refl ..) I rfl)
noncomputable def AV.str? : AV → Option Str
  | .str s => some s
  | _ => .none
theorem AV.str_of {x : AV} {s : Str} (h : x.str? = some s) : x = .str s := by
  unfold AV.str? at h
  split at h
  · cases h; rfl
  · cases h
noncomputable def addM : AV → AV → Cm AV := fun x y => match x.int? with
  | some _ => int2 (fun a b => pu (.int (a + b))) x y
  | .none => (match x.str?, y.str? with
    | some a, some b => if a.length + b.length ≤ 100000 then pu (.str (a ++ b)) else no
    | _, _ => addLM x y)
theorem add_ok : OkBin c n .Add addM := by
  intro p hr W0 a b x y ha hb W st s hle I v st' e Q E hQ
  unfold addM at e
  cases q : x.int? with
  | some _ =>
    rw [q] at e
    exact OkBin.int (fun p hr W i t j u W st s hle I v st' e Q E hQ => by cases e; exact P.add_int (hQ W _ _ ((Ext.refl ..).toks _) (I.toks _) (.int _ _))) p hr W0 a b x y ha hb W st s hle I v st' e Q E hQ
  | none =>
    rw [q] at e
    have lists : addLM x y st = some (v, st') → wpAny (model c.prog c.w) p.A (binaryOp .Add a b) Q E s := fun e => addL_ok p hr W0 a b x y ha hb W st s hle I v st' e Q E hQ
    cases q1 : x.str? with
    | none => rw [q1] at e; exact lists e
    | some sa =>
      cases q2 : y.str? with
      | none => rw [q1, q2] at e; exact lists e
      | some sb =>
        rw [q1, q2] at e
        obtain rfl := AV.str_of q1
        obtain rfl := AV.str_of q2
        obtain ⟨_, rfl⟩ := ha.inv_str
        obtain ⟨_, rfl⟩ := hb.inv_str
        dsimp only at e
        split at e
        · rename_i hsz
          cases e
          exact PyProof.Rows.add_str (fun t' tk => hQ W _ _ ((Ext.refl ..).toks _) (I.toks _) (.str _ _)) (by rw [sizeLine_eq]; omega)
        · cases e
noncomputable def subM : AV → AV → Cm AV := int2 fun a b => pu (.int (a - b))
theorem sub_ok : OkBin c n .Sub subM := OkBin.int fun p hr W0 i t j u W st s hle I v st' e Q E hQ => by
  cases e; exact P.sub_int (hQ W _ _ ((Ext.refl ..).toks _) (I.toks _) (.int _ _))
noncomputable def modM : AV → AV → Cm AV := int2 fun a b => if 0 < b then pu (.int (a % b)) else no
theorem mod_ok : OkBin c n .Mod modM := OkBin.int fun p hr W0 i t j u W st s hle I v st' e Q E hQ => by
  split at e
  · rename_i hj
    cases e
    refine mod_int' (Int.ne_of_gt hj) ?_
    rw [Int.fmod_eq_emod_of_nonneg _ (Int.le_of_lt hj)]
    exact hQ W _ _ ((Ext.refl ..).toks _) (I.toks _) (.int _ _)
  · cases e
noncomputable def divM : AV → AV → Cm AV := int2 fun a b => if 0 < b ∧ b < 1000000 then pu (.int (a / b)) else no
theorem div_ok : OkBin c n .FloorDiv divM := OkBin.int fun p hr W0 i t j u W st s hle I v st' e Q E hQ => by
  split at e
  · rename_i hj
    cases e
    refine PyProof.Rows.floordiv_int (Int.ne_of_gt hj.1) ?_ (.inl (PyProof.noPylong_small (by omega)))
    rw [Int.fdiv_eq_ediv_of_nonneg _ (Int.le_of_lt hj.1)]
    exact hQ W _ _ ((Ext.refl ..).toks _) (I.toks _) (.int _ _)
  · cases e
noncomputable def negM (f : Cm AV) : Cm AV := bd f fun x => match x with
  | .int a => pu (.int (-a))
  | _ => no
theorem ImplE.neg {e : Expr} {pos : Pos} {f : Cm AV} (h : ImplE c n sx e f) : ImplE c n sx (.UnaryOp .USub e pos) (negM f) := by
  intro p hsx hr W0 W st s hle I b st' e Q E hQ
  obtain ⟨x, st1, e1, e2⟩ := bd_some e
  refine wpAny_UnaryOp (h p hsx hr W W st s (Le.refl _) I x st1 e1 _ E fun W1 v s1 x1 I1 r1 => ?_)
  cases r1 with
  | int i t => cases e2; exact P.neg_int (hQ W1 _ _ (x1.toks _) (I1.toks _) (.int _ _))
  | _ => cases e2
noncomputable def ltM : AV → AV → Cm Bool := int2 fun a b => pu (decide (a < b))
theorem lt_ok : OkCmp c n .Lt ltM := OkCmp.int fun _ _ _ _ _ _ _ _ h => P.lt_int h
noncomputable def AV.isNo : AV → Option Bool
  | .none => some true
  | .unb => .none
  | .val _ => .none
  | _ => some false
noncomputable def isF : AV → AV → Option Bool := fun x y => match y with
  | .none => x.isNo
  | .ins j => (match x with | .ins k => some (k == j) | .none => some false | _ => .none)
  | _ => .none
theorem isF_inv {x y : AV} {r : Bool} (h : isF x y = some r) : (y = .none ∧ x.isNo = some r) ∨ ∃ j, y = .ins j ∧ ((x = .none ∧ r = false) ∨ ∃ k, x = .ins k ∧ r = (k == j)) := by
  unfold isF at h
  split at h
  · exact .inl ⟨rfl, h⟩
  · split at h
    · cases h; exact .inr ⟨_, rfl, .inr ⟨_, rfl, rfl⟩⟩
    · cases h; exact .inr ⟨_, rfl, .inl ⟨rfl, rfl⟩⟩
    · cases h
  · cases h
theorem isNo_eq {W : Wd} {a : Value} {x : AV} {r : Bool} (ha : VR W a x) (e : x.isNo = some r) : (a == Value.none) = r := by
  cases ha <;> first | (cases e; rfl) | cases e
theorem isF_ok {p : Pl} {W : Wd} {st : AS} {s : Shared} (I : Inv c p W st s) {a b : Value} {x y : AV} {r : Bool} (ha : VR W a x) (hb : VR W b y) (e : isF x y = some r) {A : Around} {E : Value → Shared → Prop} :
    (∀ Q : Value → Shared → Prop, Q (.bool r) s → wpAny (model c.prog c.w) A (compareOp .Is a b) Q E s) ∧ (∀ Q : Value → Shared → Prop, Q (.bool (!r)) s → wpAny (model c.prog c.w) A (compareOp .IsNot a b) Q E s) := by
  rcases isF_inv e with ⟨rfl, e⟩ | ⟨j, rfl, ⟨rfl, rfl⟩ | ⟨k, rfl, rfl⟩⟩
  · obtain rfl := hb.inv_none
    have z := isNo_eq ha e
    exact ⟨fun Q h => is_none (z ▸ h), fun Q h => isNot_none (z ▸ h)⟩
  · obtain ⟨rfl, hj⟩ := hb.inv_ins
    obtain rfl := ha.inv_none
    exact ⟨fun Q h => wpAny_is_other rfl nofun h, fun Q h => wpAny_isNot_other rfl nofun h⟩
  · obtain ⟨rfl, hj⟩ := hb.inv_ins
    obtain ⟨rfl, hk⟩ := ha.inv_ins
    by_cases hkj : k = j
    · subst hkj
      rw [beq_self_eq_true]
      exact ⟨fun Q h => wpAny_is_ref_self h, fun Q h => wpAny_isNot_ref_self h⟩
    · have hne : W.ia k ≠ W.ia j := fun q => by
        have r1 := (I.hr.iaR k hk).1
        rw [q, (I.hr.iaR j hj).1] at r1
        cases r1; exact hkj rfl
      obtain ⟨es1, m1, o1, _⟩ := I.hr.insA k _ (List.getElem?_eq_getElem (by rw [← I.hr.ni]; exact hk))
      obtain ⟨es2, m2, o2, _⟩ := I.hr.insA j _ (List.getElem?_eq_getElem (by rw [← I.hr.ni]; exact hj))
      rw [beq_false_of_ne hkj]
      exact ⟨fun Q h => wpAny_is_ref_other hne o1 o2 nofun h, fun Q h => wpAny_isNot_ref_other hne o1 o2 nofun h⟩
noncomputable def isM : AV → AV → Cm Bool := fun x y st => match isF x y with
  | some b => some (b, st)
  | .none => .none
theorem is_ok : OkCmp c n .Is isM := by
  intro p hr W0 a b x y ha hb W st s hle I v st' e Q E hQ
  unfold isM at e
  split at e
  · rename_i r h; cases e
    exact (isF_ok I (ha.mono hle) (hb.mono hle) h).1 Q (hQ W _ s (Ext.refl ..) I rfl)
  · cases e
noncomputable def ImplP (c : Cx) (n : Nat) (sx : Sx) (e : Option Expr) (f : Cm (Option Int)) : Prop := ∀ p : Pl, p.sx = sx → Room n p.A → ∀ W0, Ok c p W0 (evalPart e p.env) (fun _ v k => IsPart v k) f
noncomputable def partM (f : Cm AV) : Cm (Option Int) := bd f fun x => match x with
  | .int i => pu (some i)
  | _ => no
theorem ImplP.some {e : Expr} {f : Cm AV} (h : ImplE c n sx e f) : ImplP c n sx (.some e) (partM f) := by
  intro p hsx hr W0 W st s hle I b st' e Q E hQ
  obtain ⟨x, st1, e1, e2⟩ := bd_some e
  refine h p hsx hr W W st s (Le.refl _) I x st1 e1 _ E fun W1 v s1 x1 I1 r1 => ?_
  cases r1 with
  | int i t => cases e2; exact hQ W1 _ s1 x1 I1 (.int _ _)
  | _ => cases e2
end
end Mine

namespace Mine

section
variable {c : Cx} {n : Nat} {sx : Sx}

noncomputable def NewW (W : Wd) (h : Heap) (W' : Wd) (h' : Heap) : Prop := W' = W ∨ ∃ T o, h.get? T = .none ∧ h'.get? T = some o ∧ W' = W.set T (.frz o)
noncomputable def goesU : Expr → Bool
  | .Tuple .. => true
  | _ => false
noncomputable def goesT : Expr → Bool
  | .Name .. => true
  | .Tuple .. => true
  | _ => false
structure Itr (c : Cx) (A : Around) (I : Addr) (fp wr : List Addr) (gt : Expr → Bool) {σ : Type} (nx : σ → AS → Option (Option (AV × σ))) (J : σ → Wd → AS → Heap → Prop) : Prop where
  frame : ∀ (own : Addr → Prop) i W W' st st' s s', (∀ b ∈ fp, ¬ own b) → J i W st s.heap → HR c W st s.heap → Ext own W s W' s' → HR c W' st' s'.heap → J i W' st' s'.heap
  alive : ∀ i W st h, J i W st h → ∀ b ∈ fp, ∃ o, h.get? b = some o
  wrOk : ∀ i W st h, J i W st h → ∀ b ∈ wr, W.role b = .oth ∧ ∃ o, h.get? b = some o
  next : ∀ i i' x W st s tgt, gt tgt = true → J i W st s.heap → HR c W st s.heap → nx i st = some (some (x, i')) → ∀ (Q : Value → Shared → Prop) (E : Value → Shared → Prop),
    (∀ W' v h' tk, NewW W s.heap W' h' → VR W' v x → J i' W' st h' → (∀ b o, b ∉ wr → s.heap.get? b = some o → h'.get? b = some o) → Q v { s with heap := h', toks := tk }) →
    wpAny (model c.prog c.w) A (pyNext (.ref I)) (fun r s1 => match r with | .none => False | some v => wpAny (model c.prog c.w) A (letOwnedTupleGo tgt (.ref I) v) (fun _ s2 => Q v s2) E s1) E s
  stop : ∀ i W st s, J i W st s.heap → HR c W st s.heap → nx i st = some .none → ∀ (Q : Shared → Prop) (E : Value → Shared → Prop),
    (∀ h' tk, (∀ b o, b ∉ wr → s.heap.get? b = some o → h'.get? b = some o) → Q { s with heap := h', toks := tk }) →
    wpAny (model c.prog c.w) A (pyNext (.ref I)) (fun r s1 => match r with | .none => Q s1 | some _ => False) E s
  self : ∀ i W st s, J i W st s.heap → ∀ (Q : Value → Shared → Prop) (E : Value → Shared → Prop), Q (.ref I) s → wpAny (model c.prog c.w) A (pyIter (.ref I)) Q E s
noncomputable def forG {σ : Type} (nx : σ → AS → Option (Option (AV × σ))) (tgt : AV → Cm Unit) (body : Cm AF) : Nat → σ → Cm AF
  | 0, _ => no
  | m + 1, i => fun st => match nx i st with
    | .none => .none
    | some .none => some (.next, st)
    | some (some (x, i')) => (bd (tgt x) fun _ => thenM body (forG nx tgt body m i')) st
theorem poke_wr {p : Pl} {W0 W : Wd} {st : AS} {s0 s : Shared} {h' : Heap} {tk : Nat} {wr : List Addr} (I0 : ∀ b ∈ wr, s0.heap.get? b = .none) (hb0 : ∀ b ∈ wr, c.h0.get? b = .none) (hL : ∀ b ∈ wr, b ≠ p.env.locals) (hC : ∀ b ∈ wr, ∀ y, p.env.cells.lookup y ≠ some b)
    (hrole : ∀ b ∈ wr, W.role b = .oth) (x : Ext p.Own W0 s0 W s) (I : Inv c p W st s) (k : ∀ b o, b ∉ wr → s.heap.get? b = some o → h'.get? b = some o) :
    Inv c p W st { s with heap := h', toks := tk } ∧ Ext p.Own W0 s0 W { s with heap := h', toks := tk } := by
  refine ⟨⟨I.hr.grow fun b o hb e => k b o (fun q => ?_) e, I.fr.grow fun b o hb e => k b o (fun q => ?_) e⟩, ⟨x.le, fun b o e => ?_, x.oth, fun b o hm hn e => k b o (fun q => ?_) (x.kept b o hm hn e), x.gens, x.os⟩⟩
  · rcases hb with ⟨o', hb⟩ | hb
    · rw [hb0 b q] at hb; cases hb
    · exact hb (hrole b q)
  · rcases hb with hb | ⟨y, hb⟩
    · exact hL b q hb
    · exact hC b q y hb
  · obtain ⟨o1, e1⟩ := x.alive b o e
    exact ⟨o1, k b o1 (fun q => by rw [I0 b q] at e; cases e) e1⟩
  · rw [I0 b q] at e; cases e
theorem newW_ok {p : Pl} {W0 W W' : Wd} {st : AS} {s0 s : Shared} {h' : Heap} {tk : Nat} (hN : NewW W s.heap W' h') (Iold : Inv c p W st s) (I : Inv c p W st { s with heap := h', toks := tk }) (x0 : Ext p.Own W0 s0 W s) (x : Ext p.Own W0 s0 W { s with heap := h', toks := tk }) :
    Inv c p W' st { s with heap := h', toks := tk } ∧ Ext p.Own W0 s0 W' { s with heap := h', toks := tk } ∧ Le W W' := by
  rcases hN with rfl | ⟨T, o, hT, hT', rfl⟩
  · exact ⟨I, x, Le.refl _⟩
  · have hr := Iold.hr.oth_of_none hT
    refine ⟨I.newFrz hr hT' (fun q => ?_) (fun y q => ?_), ⟨x.le.trans (Le.set hr), x.alive, fun b o e z => ?_, x.kept, x.gens, x.os⟩, Le.set hr⟩
    · obtain ⟨ml, ⟨o1, es, ep, ho, _⟩, _⟩ := Iold.fr.ns
      rw [← q, hT] at ho; cases ho
    · obtain ⟨v', o1, ho, _⟩ := Iold.fr.cells y T q
      rw [hT] at ho; cases ho
    · rw [Wd.set_other]
      · exact x.oth b o e z
      · intro q
        obtain ⟨o1, e1⟩ := x0.alive b o e
        rw [q, hT] at e1; cases e1
theorem loop_ok {p : Pl} {I : Addr} {fp wr : List Addr} {gt : Expr → Bool} {σ : Type} {nx : σ → AS → Option (Option (AV × σ))} {J : σ → Wd → AS → Heap → Prop} (T : Itr c p.A I fp wr gt nx J) (hfp : ∀ b ∈ fp, ¬ p.Own b) (hr : Room n p.A) {target : Expr} {body : List Stmt} {tgt : AV → Cm Unit} {fb : Cm AF}
    (hg : gt target = true) (h1 : ImplA c n p.sx target tgt) (h2 : ImplS c n p.sx body fb) {W0 : Wd} {s0 : Shared} (I0 : ∀ b ∈ wr, s0.heap.get? b = .none) (hb0 : ∀ b ∈ wr, c.h0.get? b = .none) (hL : ∀ b ∈ wr, b ≠ p.env.locals) (hC : ∀ b ∈ wr, ∀ y, p.env.cells.lookup y ≠ some b)
    {W : Wd} {st : AS} {s : Shared} (x : Ext p.Own W0 s0 W s) (Iv : Inv c p W st s) {m : Nat} {i : σ} (j : J i W st s.heap) {r : AF} {st' : AS} (e : forG nx tgt fb m i st = some (r, st')) {R : Result → Shared → Prop}
    (hR : ∀ W' fl s', Ext p.Own W0 s0 W' s' → Inv c p W' st' s' → FlowR W' fl r → R (.ok fl) s') : codeAny (model c.prog c.w) p.A (.forLoop target (.ref I) body [] p.env) R s := by
  refine codeAny_forLoop_any (fun k s' => ∃ W' st1 i', Ext p.Own W0 s0 W' s' ∧ Inv c p W' st1 s' ∧ J i' W' st1 s'.heap ∧ forG nx tgt fb k i' st1 = some (r, st')) ?_ m ⟨W, st, i, x, Iv, j, e⟩
  rintro k s1 ⟨W1, st1, i1, x1, Iv1, j1, e1⟩
  cases k with
  | zero => cases e1
  | succ k =>
    simp only [forG] at e1
    split at e1
    · cases e1
    · rename_i hnx
      cases e1
      refine wpAny_noRaise (wpAny_mono (T.stop i1 W1 st' s1 j1 Iv1.hr hnx (fun s2 => R (.ok .next) s2) (fun _ _ => False) fun h' tk hk => ?_) (fun q s2 hq => ?_) fun _ _ q => q)
      · obtain ⟨I2, x2⟩ := poke_wr (tk := tk) I0 hb0 hL hC (fun b hb => (T.wrOk i1 W1 st' s1.heap j1 b hb).1) x1 Iv1 hk
        exact hR W1 _ _ x2 I2 .next
      · cases q with
        | none => exact wpAny_execs_nil hq
        | some => exact hq.elim
    · rename_i xv i2 hnx
      obtain ⟨u, st2, e2, e3⟩ := bd_some e1
      obtain ⟨fr, st3, e4, e5⟩ := bd_some e3
      refine wpAny_noRaise (wpAny_mono (T.next i1 i2 xv W1 st1 s1 target hg j1 Iv1.hr hnx (fun v s2 => wpAny (model c.prog c.w) p.A (assign target p.env v) (fun _ s3 => wpAny (model c.prog c.w) p.A (execs body p.env) (fun f s4 => match f with
            | .next | .cont => ∃ m, m < k + 1 ∧ ∃ W' st1 i', Ext p.Own W0 s0 W' s4 ∧ Inv c p W' st1 s4 ∧ J i' W' st1 s4.heap ∧ forG nx tgt fb m i' st1 = some (r, st')
            | .brk => R (.ok .next) s4
            | .ret v => R (.ok (.ret v)) s4) (fun _ _ => False) s3) (fun _ _ => False) s2) (fun _ _ => False) fun W2 v h' tk hN rv j2 hk => ?_) (fun q s2 hq => ?_) fun _ _ q => q)
      · obtain ⟨Ia, xa⟩ := poke_wr (tk := tk) I0 hb0 hL hC (fun b hb => (T.wrOk i1 W1 st1 s1.heap j1 b hb).1) x1 Iv1 hk
        obtain ⟨I2, x2, le2⟩ := newW_ok hN Iv1 Ia x1 xa
        refine h1 p rfl hr W2 v xv rv W2 st1 _ (Le.refl _) I2 u st2 e2 _ _ fun W3 _ s3 x3 I3 _ => ?_
        have j3 := T.frame p.Own i2 W2 W3 st1 st2 { s1 with heap := h', toks := tk } s3 hfp j2 I2.hr x3 I3.hr
        refine h2 p rfl hr W3 W3 st2 s3 (Le.refl _) I3 fr st3 e4 _ _ fun W4 fl s4 x4 I4 r4 => ?_
        have j4 := T.frame p.Own i2 W3 W4 st2 st3 s3 s4 hfp j3 I3.hr x4 I4.hr
        cases r4 with
        | next => exact ⟨k, Nat.lt_succ_self _, W4, st3, i2, (x2.trans x3).trans x4, I4, j4, e5⟩
        | ret rv' => cases e5; exact hR W4 _ s4 ((x2.trans x3).trans x4) I4 (.ret rv')
      · cases q with
        | none => exact hq.elim
        | some v => exact wpAny_mono hq (fun _ s3 z => wpAny_noRaise (wpAny_mono z (fun _ s4 y => wpAny_noRaise y) fun _ _ q => q)) fun _ _ q => q.elim
noncomputable def ImplI (c : Cx) (n : Nat) (sx : Sx) (e : Expr) (gt : Expr → Bool) {σ : Type} (f : Cm σ) (nx : σ → AS → Option (Option (AV × σ))) : Prop :=
  ∀ p : Pl, p.sx = sx → Room n p.A → ∀ W st s, Inv c p W st s → ∀ i st', f st = some (i, st') → ∀ (Q : Value → Shared → Prop) (E : Value → Shared → Prop),
    (∀ W' s' I fp wr J, Ext p.Own W s W' s' → Inv c p W' st' s' → Itr c p.A I fp wr gt nx J → J i W' st' s'.heap → (∀ b ∈ wr, s.heap.get? b = .none) → (∀ b ∈ fp, ¬ p.Own b) → Q (.ref I) s') →
    wpAny (model c.prog c.w) p.A (eval e p.env) (fun x s1 => wpAny (model c.prog c.w) p.A (pyIter x) Q E s1) E s
noncomputable def forM' {σ : Type} (f : Cm σ) (size : σ → AS → Nat) (nx : σ → AS → Option (Option (AV × σ))) (tgt : AV → Cm Unit) (body : Cm AF) : Cm AF := bd f fun i st => forG nx tgt body (size i st) i st
theorem ImplS1.for {gt : Expr → Bool} {target iter : Expr} {body : List Stmt} {pos : Pos} {σ : Type} {f : Cm σ} {size : σ → AS → Nat} {nx : σ → AS → Option (Option (AV × σ))} {tgt : AV → Cm Unit} {fb : Cm AF} (h0 : ImplI c n sx iter gt f nx) (h1 : ImplA c n sx target tgt) (h2 : ImplS c n sx body fb)
    (hg : gt target = true := by rfl) (hs : ∀ env x, foldedSetIterable iter env x = pure x := by intro _ _; rfl) : ImplS1 c n sx (.For target iter body [] pos) (forM' f size nx tgt fb) := by
  intro p hsx hr W0 W st s hle I r st' e Q E hQ
  obtain ⟨i, st1, e1, e2⟩ := bd_some e
  subst hsx
  refine wpAny_For (h0 p rfl hr W st s I i st1 e1 _ E fun W1 s1 It fp wr J x1 I1 T j hwr hfp => ?_) (hs p.env)
  refine loop_ok T hfp hr hg h1 h2 hwr (fun b hb => I.hr.base_none (hwr b hb)) (fun b hb q => ?_) (fun b hb y q => ?_) x1 I1 j e2 (fun W' fl s' x' I' r' => hQ W' fl s' x' I' r')
  · obtain ⟨ml, ⟨o1, es, ep, ho, _⟩, _⟩ := I.fr.ns
    rw [← q, hwr b hb] at ho; cases ho
  · obtain ⟨v', o1, ho, _⟩ := I.fr.cells y b q
    rw [hwr b hb] at ho; cases ho
end
end Mine

namespace Mine

section
variable {c : Cx} {n : Nat} {sx : Sx}

noncomputable def nxL : List AV → AS → Option (Option (AV × List AV)) := fun xs _ => match xs with
  | [] => some .none
  | x :: r => some (some (x, r))
noncomputable def sizeL : List AV → AS → Nat := fun xs _ => xs.length + 1
structure JW (fp wr : List Addr) (N : Nat) (P : Nat → Value → Prop) (St : Nat → Heap → Prop) (xs : List AV) (W : Wd) (st : AS) (h : Heap) : Prop where
  at_ : ∃ i, i + xs.length = N ∧ St i h ∧ ∀ k v x, xs[k]? = some x → P (i + k) v → VR W v x
  fpOk : ∀ b ∈ fp, ¬ W.Mut b ∧ ∃ o, h.get? b = some o
  wrOk : ∀ b ∈ wr, W.role b = .oth
theorem itr_walks {A : Around} {I : Addr} {fp wr : List Addr} {N : Nat} {P : Nat → Value → Prop} {St : Nat → Heap → Prop} (Wk : Walks c.prog c.w A I fp wr N P St) (hal : ∀ i h, St i h → ∀ b ∈ fp, ∃ o, h.get? b = some o)
    (hgo : ∀ i (s : Shared) v tgt (Q : Unit → Shared → Prop) (E : Value → Shared → Prop), goesT tgt = true → St i s.heap → Q () s → wpAny (model c.prog c.w) A (letOwnedTupleGo tgt (.ref I) v) Q E s) : Itr c A I fp wr goesT nxL (JW fp wr N P St) where
  alive := fun xs W st h j b hb => (j.fpOk b hb).2
  frame := fun own xs W W' st st' s s' hno j Iv x Iv' => by
    obtain ⟨i, h1, h2, h3⟩ := j.at_
    have kp : ∀ b ∈ fp, ∀ o, s.heap.get? b = some o → s'.heap.get? b = some o := fun b hb o e => x.kept b o (j.fpOk b hb).1 (hno b hb) e
    refine ⟨⟨i, h1, Wk.frame i s.heap s'.heap h2 kp, fun k v y e q => (h3 k v y e q).mono x.le⟩, fun b hb => ?_, fun b hb => ?_⟩
    · obtain ⟨q1, o, q3⟩ := j.fpOk b hb
      exact ⟨x.unmut q3 q1, o, kp b hb o q3⟩
    · obtain ⟨q1, o, q3⟩ := j.fpOk b (Wk.sub b hb)
      exact x.oth b o q3 (j.wrOk b hb)
  wrOk := fun xs W st h j b hb => ⟨j.wrOk b hb, (j.fpOk b (Wk.sub b hb)).2⟩
  next := fun xs xs' x W st s tgt hg j Iv e Q E hQ => by
    obtain ⟨i, h1, h2, h3⟩ := j.at_
    cases xs with
    | nil => cases e
    | cons y r =>
      cases e
      have hi : i < N := by rw [List.length_cons] at h1; omega
      refine Wk.item i s _ E hi h2 fun v h' tk hP hS hk => ?_
      refine hgo (i + 1) { s with heap := h', toks := tk } v tgt _ E hg hS ?_
      refine hQ W v h' tk (.inl rfl) (h3 0 v x rfl (by simpa using hP)) ⟨⟨i + 1, by rw [List.length_cons] at h1; omega, hS, fun k w z q1 q2 => h3 (k + 1) w z (by simpa using q1) (by rw [show i + (k + 1) = i + 1 + k from by omega]; exact q2)⟩, fun b hb => ?_, j.wrOk⟩ hk
      exact ⟨(j.fpOk b hb).1, hal _ _ hS b hb⟩
  stop := fun xs W st s j Iv e Q E hQ => by
    obtain ⟨i, h1, h2, h3⟩ := j.at_
    cases xs with
    | cons y r => cases e
    | nil =>
      have hi : i = N := by simpa using h1
      subst hi
      exact Wk.done s _ E h2 fun h' tk hk => hQ h' tk hk
  self := fun xs W st s j Q E hQ => by
    obtain ⟨i, h1, h2, h3⟩ := j.at_
    exact Wk.self i s Q E h2 hQ
theorem go_listiter {A : Around} {s : Shared} {I l : Addr} {i : Nat} {v : Value} {tgt : Expr} {Q : Unit → Shared → Prop} {E : Value → Shared → Prop} (hg : goesT tgt = true) (hit : s.heap.IsListIter I l i) (hQ : Q () s) : wpAny (model c.prog c.w) A (letOwnedTupleGo tgt (.ref I) v) Q E s := by
  cases tgt with
  | Name => exact wpAny_pure hQ
  | Tuple elts k pos =>
    cases v with
    | ref T => exact wpAny_letOwnedTupleGo_listiter hit hQ
    | _ => exact wpAny_pure hQ
  | _ => cases hg
noncomputable def lstIt : AV → Cm (List AV) := fun x => match x with
  | .lst xs => pu xs
  | _ => no
theorem Inv.fresh_own {p : Pl} {W : Wd} {st : AS} {s : Shared} (I : Inv c p W st s) {a : Addr} (h : s.heap.get? a = .none) : ¬ p.Own a := fun q => by
  rcases q with rfl | q
  · obtain ⟨ml, ⟨o1, es, ep, ho, _⟩, _⟩ := I.fr.ns
    rw [h] at ho; cases ho
  · obtain ⟨y, q⟩ := I.fr.wcIn a q
    obtain ⟨v', o1, ho, _⟩ := I.fr.cells y a q
    rw [h] at ho; cases ho
theorem Inv.frz_own {p : Pl} {W : Wd} {st : AS} {s : Shared} (I : Inv c p W st s) {a : Addr} {o : Obj} (h : W.role a = .frz o) : ¬ p.Own a ∧ ¬ W.Mut a := ⟨(fun q => by rw [I.fr.ownOth q] at h; cases h), (by unfold Wd.Mut; rw [h]; exact fun q => q)⟩
theorem ImplI.list {e : Expr} {f : Cm AV} (h : ImplE c n sx e f) : ImplI c n sx e goesT (bd f lstIt) nxL := by
  intro p hsx hr W st s I xs st' e Q E hQ
  obtain ⟨x, st1, e1, e2⟩ := bd_some e
  refine h p hsx hr W W st s (Le.refl _) I x st1 e1 _ E fun W1 v s1 x1 I1 r1 => ?_
  cases r1 with
  | @lst a vs m _ hrole hvs =>
    cases e2
    have L := I1.hr.isList hrole
    have hn : s1.heap.get? s1.heap.objs.size = .none := get_none_of_ge (Nat.le_refl _)
    have ha := I1.hr.frz _ _ hrole
    have hne : a ≠ s1.heap.objs.size := Nat.ne_of_lt (Heap.lt_size ha)
    refine wpAny_pyIter_list L ?_
    have k2 : ∀ b o, s1.heap.get? b = some o → (s1.heap.push { cls := .type "list_iterator", data := .fields #[.ref a, .int 0 0] }).get? b = some o := fun _ _ e => Heap.get?_push_of_some _ e
    have x2 : Ext p.Own W1 s1 W1 { s1 with heap := s1.heap.push { cls := .type "list_iterator", data := .fields #[.ref a, .int 0 0] } } := Ext.keeps _ _ k2 rfl rfl
    have Wk := Walks.list (prog := c.prog) (w := c.w) (A := p.A) hr.1 s1.heap.objs.size a hne vs.toArray
    refine hQ W1 _ s1.heap.objs.size [s1.heap.objs.size, a] [s1.heap.objs.size] _ (x1.trans x2) (I1.keeps k2) (itr_walks Wk (fun i hh q b hb => ?_) (fun i s v tgt Q E hg q hq => go_listiter hg q.1 hq)) ⟨⟨0, ?_, ⟨⟨_, Heap.get?_push_size _ rfl, rfl, rfl⟩, L.push _⟩, fun k v y q1 q2 => ?_⟩, fun b hb => ?_, fun b hb => ?_⟩ (fun b hb => ?_) (fun b hb => ?_)
    · rcases List.mem_cons.mp hb with rfl | hb
      · obtain ⟨o, ho, _⟩ := q.1; exact ⟨o, ho⟩
      · rw [List.mem_singleton.mp hb]; obtain ⟨o, ho, _⟩ := q.2; exact ⟨o, ho⟩
    · rw [List.size_toArray, hvs.length, Nat.zero_add]
    · rw [Nat.zero_add, List.getElem?_toArray] at q2
      obtain ⟨x', e', r'⟩ := hvs.getv q2
      rw [q1] at e'; cases e'; exact r'
    · rcases List.mem_cons.mp hb with rfl | hb
      · exact ⟨by unfold Wd.Mut; rw [I1.hr.oth_of_none hn]; exact fun q => q, _, Heap.get?_push_size _ rfl⟩
      · rw [List.mem_singleton.mp hb]; exact ⟨(I1.frz_own hrole).2, _, k2 _ _ ha⟩
    · rw [List.mem_singleton.mp hb]; exact I1.hr.oth_of_none hn
    · rw [List.mem_singleton.mp hb]
      cases z : s.heap.get? s1.heap.objs.size with
      | none => rfl
      | some o => obtain ⟨o1, z1⟩ := x1.alive _ o z; rw [hn] at z1; cases z1
    · rcases List.mem_cons.mp hb with q | hb
      · rw [q]; exact I1.fresh_own hn
      · rw [List.mem_singleton.mp hb]; exact (I1.frz_own hrole).1
  | _ => cases e2
noncomputable def rangeL (a : Int) (N : Nat) : List AV := (List.range N).map fun k => AV.int (a + (k : Nat))
theorem rangeL_len (a : Int) (N : Nat) : (rangeL a N).length = N := by simp [rangeL]
theorem go_range {A : Around} {s : Shared} {I : Addr} {x l t : Int} {v : Value} {tgt : Expr} {Q : Unit → Shared → Prop} {E : Value → Shared → Prop} (hg : goesT tgt = true) (hit : IsRangeIter s.heap I x l t) (hQ : Q () s) : wpAny (model c.prog c.w) A (letOwnedTupleGo tgt (.ref I) v) Q E s := by
  cases tgt with
  | Name => exact wpAny_pure hQ
  | Tuple elts k pos =>
    cases v with
    | ref T =>
      unfold letOwnedTupleGo
      refine wpAny_bind (wpAny_load hit ?_)
      show wpAny _ A (if (["enumerate", "zip", "dict_itemiterator", "dict_reverseitemiterator", "odict_iterator", "itertools.zip_longest", "itertools.pairwise"].contains "range_iterator" && _) = true then _ else _) Q E s
      rw [if_neg (by rw [show (["enumerate", "zip", "dict_itemiterator", "dict_reverseitemiterator", "odict_iterator", "itertools.zip_longest", "itertools.pairwise"].contains "range_iterator") = false from by decide, Bool.false_and]; exact Bool.false_ne_true)]
      exact wpAny_pure hQ
    | _ => exact wpAny_pure hQ
  | _ => cases hg
theorem range_itr {p : Pl} (hr : Room n p.A) {W W1 : Wd} {st : AS} {s s1 : Shared} {a b : Int} {t u v : Tok} {tk : Nat} (x1 : Ext p.Own W s W1 s1) (I1 : Inv c p W1 st s1) (ha : -1000000 ≤ a) (ha' : a ≤ 1000000) (hb : -1000000 ≤ b) (hb' : b ≤ 1000000) {Q : Value → Shared → Prop} {E : Value → Shared → Prop}
    (hQ : ∀ W' s' I fp wr J, Ext p.Own W s W' s' → Inv c p W' st s' → Itr c p.A I fp wr goesT nxL J → J (rangeL a (b - a).toNat) W' st s'.heap → (∀ b ∈ wr, s.heap.get? b = .none) → (∀ b ∈ fp, ¬ p.Own b) → Q (.ref I) s') :
    wpAny (model c.prog c.w) p.A (pyIter (.ref s1.heap.objs.size)) Q E { s1 with heap := s1.heap.push { cls := .type "range", data := .fields #[.int a t, .int b u, .int 1 v] }, toks := tk } := by
  refine wpAny_pyIter_range (IsRange.new ..) (small_one (by omega) (by omega) (by omega) (by omega)) ?_
  have hn : s1.heap.get? (s1.heap.objs.size + 1) = .none := get_none_of_ge (Nat.le_succ _)
  have hsz : (s1.heap.push { cls := .type "range", data := .fields #[.int a t, .int b u, .int 1 v] }).objs.size = s1.heap.objs.size + 1 := Heap.size_push ..
  have k2 : ∀ d o, s1.heap.get? d = some o → ((s1.heap.push { cls := .type "range", data := .fields #[.int a t, .int b u, .int 1 v] }).push { cls := .type "range_iterator", data := .fields #[rawInt a, rawInt (Builtin.Range.rangeSize a b 1), rawInt 1] }).get? d = some o := fun _ _ e => Heap.get?_push_of_some _ (Heap.get?_push_of_some _ e)
  have hrs : Builtin.Range.rangeSize a b 1 = ((b - a).toNat : Int) := by rw [rangeSize_one]; split <;> omega
  have Wk := Walks.range (prog := c.prog) (w := c.w) (A := p.A) hr.1 (s1.heap.objs.size + 1) a 1 (b - a).toNat
  have hit : ((s1.heap.push { cls := .type "range", data := .fields #[.int a t, .int b u, .int 1 v] }).push { cls := .type "range_iterator", data := .fields #[rawInt a, rawInt (Builtin.Range.rangeSize a b 1), rawInt 1] }).get? (s1.heap.objs.size + 1) = some { cls := .type "range_iterator", data := .fields #[rawInt a, rawInt (Builtin.Range.rangeSize a b 1), rawInt 1] } := by
    have := Heap.get?_push_size (s1.heap.push { cls := .type "range", data := .fields #[.int a t, .int b u, .int 1 v] }) (o := { cls := .type "range_iterator", data := .fields #[rawInt a, rawInt (Builtin.Range.rangeSize a b 1), rawInt 1] }) rfl
    rwa [hsz] at this
  dsimp only
  rw [hsz]
  have x2 : Ext p.Own W1 s1 W1 { s1 with heap := (s1.heap.push { cls := .type "range", data := .fields #[.int a t, .int b u, .int 1 v] }).push { cls := .type "range_iterator", data := .fields #[rawInt a, rawInt (Builtin.Range.rangeSize a b 1), rawInt 1] }, toks := tk } := Ext.keeps _ _ k2 rfl rfl
  refine hQ W1 _ (s1.heap.objs.size + 1) [s1.heap.objs.size + 1] [s1.heap.objs.size + 1] _ (x1.trans x2) (I1.keeps k2) (itr_walks Wk (fun i hh q d hd => ?_) (fun i s v tgt Q E hg q hq => go_range hg q hq)) ⟨⟨0, by rw [rangeL_len, Nat.zero_add], ?_, fun k w y q1 q2 => ?_⟩, fun d hd => ?_, fun d hd => ?_⟩ (fun d hd => ?_) (fun d hd => by rw [List.mem_singleton.mp hd]; exact I1.fresh_own hn)
  · rw [List.mem_singleton.mp hd]; exact ⟨_, q⟩
  · show IsRangeIter _ _ (a + ((0 : Nat) : Int) * 1) (((b - a).toNat : Int) - ((0 : Nat) : Int)) 1
    rw [show (a + ((0 : Nat) : Int) * 1) = a from by simp, show (((b - a).toNat : Int) - ((0 : Nat) : Int)) = Builtin.Range.rangeSize a b 1 from by rw [hrs]; simp]
    exact hit
  · obtain ⟨t', rfl⟩ := q2
    unfold rangeL at q1
    rw [List.getElem?_map] at q1
    obtain ⟨m, hm, rfl⟩ := Option.map_eq_some_iff.mp q1
    have : m = k := by
      rw [List.getElem?_range] at hm
      · cases hm; rfl
      · rcases Nat.lt_or_ge k (b - a).toNat with z | z
        · exact z
        · rw [List.getElem?_eq_none (by simpa using z)] at hm; cases hm
    subst this
    have e0 : a + ((0 + m : Nat) : Int) * 1 = a + (m : Int) := by simp
    rw [e0]
    exact .int _ _
  · rw [List.mem_singleton.mp hd]
    exact ⟨by unfold Wd.Mut; rw [I1.hr.oth_of_none hn]; exact fun q => q, _, hit⟩
  · rw [List.mem_singleton.mp hd]; exact I1.hr.oth_of_none hn
  · rw [List.mem_singleton.mp hd]
    cases z : s.heap.get? (s1.heap.objs.size + 1) with
    | none => rfl
    | some o => obtain ⟨o1, z1⟩ := x1.alive _ o z; rw [hn] at z1; cases z1
noncomputable def rangeM : List AV → Cm (List AV) := fun xs => match xs with
  | [.int b] => if -1000000 ≤ b ∧ b ≤ 1000000 then pu (rangeL 0 b.toNat) else no
  | [.int a, .int b] => if -1000000 ≤ a ∧ a ≤ 1000000 ∧ -1000000 ≤ b ∧ b ≤ 1000000 then pu (rangeL a (b - a).toNat) else no
  | _ => no
theorem ImplI.range (G : Gd c) {x : Str} {p0 pos : Pos} {es : List Expr} {fs : Cm (List AV)} (hx : sx.sc.names.lookup x = some .globalImplicit) (hg : c.Glob x (.type "range")) (h : ImplEs c n sx es fs) (hd : (x == ("__debug__" : Str)) = false := by decide) (hp : es.all plainX = true := by rfl) :
    ImplI c n sx (.Call (.Name x p0) es [] pos) goesT (bd fs rangeM) nxL := by
  intro p hsx hr W st s I xs st' e Q E hQ
  obtain ⟨ys, st1, e1, e2⟩ := bd_some e
  refine Call_ (load_glob G I (by rw [hsx]; exact hx) hg hd ?_)
  refine PyProof.Rows.callWith_type (any_false hp) (evalArgs_row hp ?_)
  refine h p hsx hr W pos W st s (Le.refl _) I ys st1 e1 _ E fun W1 vs s1 x1 I1 r1 => ?_
  unfold rangeM at e2
  split at e2
  · rename_i b
    split at e2
    · rename_i hb
      cases e2
      cases r1 with
      | cons ha hr' =>
        cases hr'
        cases ha
        refine call_range_1 (range_itr (a := 0) hr x1 I1 (by decide) (by decide) hb.1 hb.2 fun W' s' I fp wr J q1 q2 q3 q4 q5 q6 => hQ W' s' I fp wr J q1 q2 q3 ?_ q5 q6)
        rwa [show (b - 0).toNat = b.toNat from by rw [Int.sub_zero]] at q4
    · cases e2
  · rename_i a b
    split at e2
    · rename_i hb
      cases e2
      cases r1 with
      | cons ha hr' =>
        cases hr' with
        | cons hb' hr'' =>
          cases hr''
          cases ha
          cases hb'
          exact call_range_2 (range_itr hr x1 I1 hb.1 hb.2.1 hb.2.2.1 hb.2.2.2 fun W' s' I fp wr J q1 q2 q3 q4 q5 q6 => hQ W' s' I fp wr J q1 q2 q3 q4 q5 q6)
    · cases e2
  · cases e2
end
end Mine

namespace Mine

section
variable {c : Cx} {n : Nat} {sx : Sx}

end
end Mine

namespace Mine

section
variable {c : Cx} {n : Nat} {sx : Sx}

theorem ints_are {W : Wd} : ∀ {vs : List Value} {ns : List Int}, IntsAre vs ns → VRs W vs (ns.map .int)
  | _, _, h => by
    induction h with
    | nil => exact .nil
    | cons => exact .cons (.int _ _) (by assumption)
end
end Mine

namespace Mine

section
variable {c : Cx} {n : Nat} {sx : Sx}

noncomputable def relS (scope sc : Scope) : Scope := relabel scope (envS sc)
theorem rel_static {scope : Scope} {env : Env} {sc : Scope} (h : env.scope = sc) : relabel scope env = relS scope sc := by
  obtain ⟨scope', locals, globals, cells, qual, func, code, frame, builtins⟩ := env
  dsimp only at h; subst h; rfl
noncomputable def sxC (sx : Sx) (scope : Scope) (tv cp : List Str) : Sx := ⟨relS scope sx.sc, tv ++ cp, tv⟩
noncomputable def closeL (f : Str → Option Addr) : List (Str × NameKind) → List (Str × Addr) → List (Str × Addr)
  | [], acc => acc
  | (y, k) :: r, acc => if k == .free then (match f y with | some a => closeL f r ((y, a) :: acc) | .none => closeL f r acc) else closeL f r acc
theorem closure_go {env : Env} : ∀ (names : List (Str × NameKind)) (acc : List (Str × Addr)), (∀ y, (y, NameKind.free) ∈ names → ∃ a, env.cells.lookup y = some a) →
    (forIn names acc fun (x : Str × NameKind) (cs : List (Str × Addr)) => (if x.2 == .free then do let a ← cellOf env x.1; pure (ForInStep.yield ((x.1, a) :: cs)) else pure (ForInStep.yield cs) : Sem (ForInStep (List (Str × Addr))))) = pure (closeL (fun y => env.cells.lookup y) names acc)
  | [], acc, _ => rfl
  | (y, k) :: r, acc, h => by
    rw [List.forIn_cons]
    by_cases hk : (k == NameKind.free) = true
    · have hk' : k = .free := beq_iff_eq.mp hk
      subst hk'
      obtain ⟨a, ha⟩ := h y List.mem_cons_self
      have e1 : cellOf env y = pure a := by unfold cellOf; rw [ha]
      have ih := closure_go (env := env) r ((y, a) :: acc) fun z hz => h z (List.mem_cons_of_mem _ hz)
      simp only [closeL, beq_self_eq_true, if_true, ha]
      rw [e1]
      exact ih
    · have ih := closure_go (env := env) r acc fun z hz => h z (List.mem_cons_of_mem _ hz)
      simp only [closeL, hk, if_false, Bool.false_eq_true]
      exact ih
theorem closure_is {env : Env} {scope : Scope} (h : ∀ y, (y, NameKind.free) ∈ scope.names → ∃ a, env.cells.lookup y = some a) : closureFor scope env = pure (closeL (fun y => env.cells.lookup y) scope.names []) := by
  have := closure_go (env := env) scope.names [] h
  unfold closureFor
  show (forIn scope.names [] _ >>= fun cs => pure cs) = _
  have e2 : ∀ t : Sem (List (Str × Addr)), t = pure (closeL (fun y => env.cells.lookup y) scope.names []) → (t >>= fun cs => pure cs) = pure (closeL (fun y => env.cells.lookup y) scope.names []) := fun t ht => by rw [ht]; rfl
  exact e2 _ this
theorem closeL_mem {f : Str → Option Addr} : ∀ {names : List (Str × NameKind)} {acc : List (Str × Addr)} {y : Str} {a : Addr}, (y, a) ∈ closeL f names acc → (y, a) ∈ acc ∨ f y = some a
  | [], acc, y, a, h => .inl h
  | (z, k) :: r, acc, y, a, h => by
    unfold closeL at h
    split at h
    · split at h
      · rename_i b hb
        rcases closeL_mem h with q | q
        · rcases List.mem_cons.mp q with q | q
          · cases q; exact .inr hb
          · exact .inl q
        · exact .inr q
      · exact closeL_mem h
    · exact closeL_mem h
theorem closeL_has {f : Str → Option Addr} : ∀ {names : List (Str × NameKind)} {acc : List (Str × Addr)} {y : Str}, ((∃ a, (y, a) ∈ acc) ∨ ((y, NameKind.free) ∈ names ∧ ∃ a, f y = some a)) → ∃ a, (y, a) ∈ closeL f names acc
  | [], acc, y, h => by
    rcases h with h | ⟨h, _⟩
    · exact h
    · cases h
  | (z, k) :: r, acc, y, h => by
    unfold closeL
    split
    · rename_i hk
      have hk' : k = .free := beq_iff_eq.mp hk
      split
      · rename_i b hb
        refine closeL_has ?_
        rcases h with ⟨a, h⟩ | ⟨h, a, ha⟩
        · exact .inl ⟨a, List.mem_cons_of_mem _ h⟩
        · rcases List.mem_cons.mp h with q | q
          · cases q; exact .inl ⟨b, List.mem_cons_self⟩
          · exact .inr ⟨q, a, ha⟩
      · rename_i hb
        refine closeL_has ?_
        rcases h with h | ⟨h, a, ha⟩
        · exact .inl h
        · rcases List.mem_cons.mp h with q | q
          · cases q; rw [hb] at ha; cases ha
          · exact .inr ⟨q, a, ha⟩
    · rename_i hk
      refine closeL_has ?_
      rcases h with h | ⟨h, a, ha⟩
      · exact .inl h
      · rcases List.mem_cons.mp h with q | q
        · cases q; exact absurd rfl hk
        · exact .inr ⟨q, a, ha⟩
theorem closeL_apart {f : Str → Option Addr} (hf : ∀ y z a, f y = some a → f z = some a → y = z) : ∀ {names : List (Str × NameKind)} {acc : List (Str × Addr)}, acc.Pairwise (fun x y => x.2 ≠ y.2) → (∀ x ∈ acc, f x.1 = some x.2) → (names.map (·.1)).Nodup → (∀ x ∈ acc, x.1 ∉ names.map (·.1)) → (closeL f names acc).Pairwise (fun x y => x.2 ≠ y.2)
  | [], acc, h, _, _, _ => h
  | (z, k) :: r, acc, h, h1, h2, h3 => by
    obtain ⟨n1, n2⟩ := List.nodup_cons.mp h2
    unfold closeL
    split
    · split
      · rename_i b hb
        refine closeL_apart hf (List.pairwise_cons.mpr ⟨fun x hx q => ?_, h⟩) (fun x hx => ?_) n2 (fun x hx => ?_)
        · have := hf z x.1 b hb (by rw [h1 x hx]; exact congrArg some q.symm)
          exact h3 x hx (by rw [← this]; exact List.mem_cons_self)
        · rcases List.mem_cons.mp hx with q | q
          · rw [q]; exact hb
          · exact h1 x q
        · rcases List.mem_cons.mp hx with q | q
          · rw [q]; exact n1
          · exact fun w => h3 x q (List.mem_cons_of_mem _ w)
      · exact closeL_apart hf h h1 n2 fun x hx w => h3 x hx (List.mem_cons_of_mem _ w)
    · exact closeL_apart hf h h1 n2 fun x hx w => h3 x hx (List.mem_cons_of_mem _ w)
theorem lookup_of_mem {l : List (Str × Addr)} {y : Str} {a : Addr} (h : (y, a) ∈ l) : ∃ b, l.lookup y = some b := by
  induction l with
  | nil => cases h
  | cons x r ih =>
    obtain ⟨z, b⟩ := x
    rw [List.lookup_cons]
    cases q : (y == z) with
    | true => exact ⟨b, rfl⟩
    | false =>
      rcases List.mem_cons.mp h with e | e
      · cases e; simp at q
      · exact ih e
noncomputable def ImplC (c : Cx) (n : Nat) (sx : Sx) (ifs : List Expr) (f : Cm Bool) : Prop := ∀ p : Pl, p.sx = sx → Room n p.A → ∀ W0,
  Ok c p W0 (forIn ifs true fun c r => if r = true then do let ok ← isTrue c p.env (eval c p.env); pure (ForInStep.yield ok) else pure (ForInStep.yield r)) (fun _ a b => a = b) f
theorem ImplC.nil : ImplC c n sx [] (pu true) := by
  intro p _ _ W0 W st s hle I b st' e Q E hQ
  cases e
  exact wpAny_tests_nil (hQ W _ s (Ext.refl ..) I rfl)
theorem ImplC.one {e : Expr} {f : Cm Bool} (h : ImplT c n sx e f) : ImplC c n sx [e] f := by
  intro p hsx hr W0 W st s hle I b st' e Q E hQ
  exact wpAny_tests_one (h p hsx hr W0 W st s hle I b st' e Q E hQ)
end
end Mine

namespace Mine

section
variable {c : Cx} {n : Nat} {sx : Sx}

noncomputable def capsL (caps : List Nat) (loc : List AV) : List AV := caps.map fun i => (loc[i]?).getD .unb
theorem comp_out {p : Pl} {C : Addr} {W W' : Wd} {s s' : Shared} {st : AS} (hC0 : s.heap.get? C = .none) (hCr : W'.role C = .oth) (hCb : c.h0.get? C = .none) (hcC : ∀ y a, p.env.cells.lookup y = some a → a ≠ C) (hLC : p.env.locals ≠ C)
    (x : Ext (fun a => p.Own a ∨ a = C) W s W' s') (I : Inv c p W' st s') {h' : Heap} (hs : Heap.SameBut C s'.heap h') : Ext p.Own W s W' { s' with heap := h' } ∧ Inv c p W' st { s' with heap := h' } := by
  refine ⟨⟨x.le, fun a o q => ?_, x.oth, fun a o hm hn q => ?_, x.gens, x.os⟩, ⟨I.hr.grow fun b o hb q => hs.extBut b o (fun z => ?_) q, I.fr.grow fun b o hb q => hs.extBut b o (fun z => ?_) q⟩⟩
  · obtain ⟨o1, z⟩ := x.alive a o q
    exact ⟨o1, hs.extBut a o1 (fun w => by rw [w, hC0] at q; cases q) z⟩
  · have hne : a ≠ C := fun w => by rw [w, hC0] at q; cases q
    exact hs.extBut a o hne (x.kept a o hm (fun w => w.elim hn hne) q)
  · subst z
    rcases hb with ⟨o', hb⟩ | hb
    · rw [hCb] at hb; cases hb
    · exact hb hCr
  · rcases hb with hb | ⟨y, hb⟩
    · exact hLC (hb ▸ z)
    · exact hcC y b hb z
end
end Mine

namespace Mine

section
variable {c : Cx} {n : Nat} {sx : Sx}

theorem items_hr {W : Wd} {st st' : AS} {h : Heap} (H : HR c W st h) {v : Value} {x : AV} {xs : List AV} (hv : VR W v x) (e : itemsM x st = some (xs, st')) :
    ∃ a vs m, v = .ref a ∧ h.get? a = some (listOf vs.toArray m) ∧ VRs W vs xs := by
  cases hv with
  | lst h r => simp only [itemsM] at e; cases e; exact ⟨_, _, _, rfl, H.frz _ _ h, r⟩
  | lob k hk =>
    simp only [itemsM] at e
    split at e
    · rename_i ys hy
      cases e
      obtain ⟨_, _, vs, m, h3, h4⟩ := H.lobAt hy
      exact ⟨_, vs, m, rfl, h3, h4⟩
    · cases e
  | _ => simp only [itemsM] at e; cases e
noncomputable def nxA : AV × Nat → AS → Option (Option (AV × (AV × Nat))) := fun i st => match itemsM i.1 st with
  | some (xs, _) => (match xs[i.2]? with | some y => some (some (y, (i.1, i.2 + 1))) | .none => some .none)
  | .none => .none
noncomputable def sizeA : AV × Nat → AS → Nat := fun i st => match itemsM i.1 st with
  | some (xs, _) => xs.length + 1
  | .none => 0
structure JA (it : Addr) (i : AV × Nat) (W : Wd) (st : AS) (h : Heap) : Prop where
  at_ : ∃ l, VR W (.ref l) i.1 ∧ h.IsListIter it l i.2
  io : W.role it = .oth
theorem any_itr {A : Around} (hr : Room n A) {it : Addr} : Itr c A it [it] [it] goesT nxA (JA it) where
  alive := fun i W st h j b hb => by
    obtain ⟨l, _, o, h7, _⟩ := j.at_
    rw [List.mem_singleton.mp hb]; exact ⟨_, h7⟩
  frame := fun own i W W' st st' s s' hno j H x H' => by
    obtain ⟨l, h1, o, h7, h8⟩ := j.at_
    have mi : ¬ W.Mut it := by unfold Wd.Mut; rw [j.io]; exact fun q => q
    exact ⟨⟨l, h1.mono x.le, o, x.kept _ _ mi (hno _ List.mem_cons_self) h7, h8⟩, x.oth _ _ h7 j.io⟩
  wrOk := fun i W st h j b hb => by
    obtain ⟨l, _, o, h7, _⟩ := j.at_
    rw [List.mem_singleton.mp hb]; exact ⟨j.io, _, h7⟩
  next := fun i i' x W st s tgt hg j H e Q E hQ => by
    obtain ⟨l, h1, hit⟩ := j.at_
    simp only [nxA] at e
    split at e
    · rename_i xs q he
      split at e
      · rename_i y hy
        cases e
        obtain ⟨a, vs, m, ha, hg', hvs⟩ := items_hr H h1 he
        cases ha
        have L : s.heap.IsList l vs.toArray := ⟨_, hg', rfl, _, rfl⟩
        obtain ⟨v, hv, rv⟩ := hvs.get hy
        refine wpAny_pyNext_list_item hit L (by rw [List.getElem?_toArray]; exact hv) fun h' hit' hs' => ?_
        refine go_listiter hg hit' ?_
        refine hQ W v h' s.toks (.inl rfl) rv ⟨⟨l, h1, hit'⟩, j.io⟩ fun b o hb e => hs'.extBut b o (fun z => hb (by rw [z]; exact List.mem_cons_self)) e
      · cases e
    · cases e
  stop := fun i W st s j H e Q E hQ => by
    obtain ⟨l, h1, hit⟩ := j.at_
    simp only [nxA] at e
    split at e
    · rename_i xs q he
      split at e
      · cases e
      · rename_i hy
        obtain ⟨a, vs, m, ha, hg', hvs⟩ := items_hr H h1 he
        cases ha
        have L : s.heap.IsList l vs.toArray := ⟨_, hg', rfl, _, rfl⟩
        refine wpAny_pyNext_list_end hr.1 hit L (by rw [List.getElem?_toArray]; rw [List.getElem?_eq_none_iff] at hy ⊢; rw [hvs.length]; exact hy) fun h' hk => ?_
        exact hQ h' s.toks fun b o hb e => hk b o (fun z => hb (by rw [z]; exact List.mem_cons_self)) e
    · cases e
  self := fun i W st s j Q E hQ => by
    obtain ⟨l, h1, hit⟩ := j.at_
    exact wpAny_pyIter_listiter hit hQ
noncomputable def anyIt : AV → Cm (AV × Nat) := fun x st => match itemsM x st with
  | some _ => some ((x, 0), st)
  | .none => .none
theorem ImplI.any {e : Expr} {f : Cm AV} (h : ImplE c n sx e f) : ImplI c n sx e goesT (bd f anyIt) nxA := by
  intro p hsx hr W st s I i st' e Q E hQ
  obtain ⟨x, st1, e1, e2⟩ := bd_some e
  refine h p hsx hr W W st s (Le.refl _) I x st1 e1 _ E fun W1 v s1 x1 I1 r1 => ?_
  unfold anyIt at e2
  split at e2
  · rename_i q he
    cases e2
    obtain ⟨xs, q⟩ := q
    obtain ⟨a, vs, m, ha, hg, hvs⟩ := items_hr I1.hr r1 he
    subst ha
    have L : s1.heap.IsList a vs.toArray := ⟨_, hg, rfl, _, rfl⟩
    have hn : s1.heap.get? s1.heap.objs.size = .none := get_none_of_ge (Nat.le_refl _)
    refine wpAny_pyIter_list L ?_
    have k2 : ∀ b o, s1.heap.get? b = some o → (s1.heap.push { cls := .type "list_iterator", data := .fields #[.ref a, .int 0 0] }).get? b = some o := fun _ _ e => Heap.get?_push_of_some _ e
    have x2 : Ext p.Own W1 s1 W1 { s1 with heap := s1.heap.push { cls := .type "list_iterator", data := .fields #[.ref a, .int 0 0] } } := Ext.keeps _ _ k2 rfl rfl
    refine hQ W1 _ s1.heap.objs.size [s1.heap.objs.size] [s1.heap.objs.size] _ (x1.trans x2) (I1.keeps k2) (any_itr hr) ⟨⟨a, r1, ⟨_, Heap.get?_push_size _ rfl, rfl, rfl⟩⟩, I1.hr.oth_of_none hn⟩ (fun b hb => ?_) (fun b hb => by rw [List.mem_singleton.mp hb]; exact I1.fresh_own hn)
    rw [List.mem_singleton.mp hb]
    cases z : s.heap.get? s1.heap.objs.size with
    | none => rfl
    | some o => obtain ⟨o1, z1⟩ := x1.alive _ o z; rw [hn] at z1; cases z1
  · cases e2
end
end Mine

namespace Mine

section
variable {c : Cx} {n : Nat} {sx : Sx}

noncomputable def mulM : AV → AV → Cm AV := fun x y => match x with
  | .str a => (match y with | .int k => if 0 ≤ k ∧ k ≤ 1000 ∧ a.length ≤ 1000 then pu (.str (Txt.mul a k)) else no | _ => no)
  | .bytes b => (match y with | .int k => if b.toList ≠ [] ∧ b.size ≤ 16 ∧ 0 ≤ k ∧ k ≤ 1000 then pu (.bytes (List.replicate k.toNat b.toList).flatten.toArray) else no | _ => no)
  | x => mulLM x y
noncomputable def intsOf : List AV → Option (List Int)
  | [] => some []
  | .int i :: r => (match intsOf r with | some ns => some (i :: ns) | .none => .none)
  | _ :: _ => .none
theorem intsOf_are {W : Wd} : ∀ {vs : List Value} {xs : List AV} {ns : List Int}, VRs W vs xs → intsOf xs = some ns → IntsAre vs ns
  | _, _, _, .nil, h => by cases h; exact .nil
  | _, _, _, .cons a r, h => by
    cases a with
    | int i t =>
      simp only [intsOf] at h
      split at h
      · rename_i ns e; cases h; exact .cons _ _ (intsOf_are r e)
      · cases h
    | _ => cases h
noncomputable def bytesM : List AV → Cm AV := fun xs st => match xs with
  | [x] => (match itemsM x st with
    | some (ys, _) => (match intsOf ys with
      | some ns => if ys.length ≤ 100000 ∧ (ns.all fun k => decide (0 ≤ k ∧ k < 256)) = true then some (.bytes (byteArr ns), st) else .none
      | .none => .none)
    | .none => .none)
  | _ => .none
theorem bytes_ok : OkCall c n (.type "bytes") bytesM := by
  intro p hr W0 vs xs hv W st s hle I b st' e Q E hQ
  cases hv.mono hle with
  | nil => cases e
  | cons ha hr' =>
    cases hr' with
    | cons => cases e
    | nil =>
      simp only [bytesM] at e
      split at e
      · rename_i ys q he
        split at e
        · rename_i ns hn
          split at e
          · rename_i hk
            cases e
            obtain ⟨a, us, m, ha', hg, hvs⟩ := items_hr I.hr ha he
            subst ha'
            refine call_bytes_ints (vs := us) (ns := ns) ⟨_, hg, rfl, _, rfl⟩ (intsOf_are hvs hn) (fun k hk' => by simpa using List.all_eq_true.mp hk.2 k hk') (by rw [hvs.length, sizeLine_eq]; omega) hr.1 fun h' t tk kk => ?_
            exact hQ W _ _ (Ext.keeps _ _ kk rfl rfl) (I.keeps kk) (.bytes _ _)
          · cases e
        · cases e
      · cases e
end
end Mine

namespace Mine

section
variable {c : Cx} {n : Nat} {sx : Sx}

end
end Mine

namespace Mine

section
variable {c : Cx} {n : Nat} {sx : Sx}

noncomputable def frzE (f : Cm AV) : Cm AV := fun st => match f { st with lst := [] :: st.lst } with
  | some (v, st1) => (match st1.lst with
    | seg :: r => some (frzV seg v, { st1 with lst := r })
    | [] => .none)
  | .none => .none
theorem Inv.seg {p : Pl} {W : Wd} {st : AS} {s : Shared} (I : Inv c p W st s) : Inv c p W { st with lst := [] :: st.lst } s := by
  refine ⟨⟨I.hr.keep, I.hr.mutA, I.hr.lt, I.hr.frz, I.hr.ni, I.hr.nl, I.hr.iaR, I.hr.insA, fun g hg q hq => ?_, ?_⟩, I.fr⟩
  · rcases List.mem_cons.mp hg with z | hg
    · subst z; cases hq
    · exact I.hr.lstA g hg q hq
  · show ((([] : List (Nat × List AV)) ++ st.lst.flatten).map (·.1)).Nodup
    exact I.hr.nodup
theorem freeze_oth {W : Wd} {seg : List (Nat × List AV)} {h : Heap} {a : Addr} (z : W.role a = .oth) : (W.freeze seg h).role a = .oth := by
  rw [freeze_role (by intro k zz; rw [z] at zz; cases zz)]; exact z
theorem Inv.unseg {p : Pl} {W : Wd} {st : AS} {s : Shared} {seg : List (Nat × List AV)} {r : LH} (I : Inv c p W st s) (e : st.lst = seg :: r) : Inv c p (W.freeze seg s.heap) { st with lst := r } s :=
  ⟨I.hr.freezeSeg e, I.fr.mono (Le.freeze ..) (freeze_oth I.fr.roleL) fun x a q => freeze_oth (I.fr.roleC x a q).1⟩
theorem Ext.unseg {own : Addr → Prop} {W W' : Wd} {s s' : Shared} {seg : List (Nat × List AV)} (x : Ext own W s W' s') : Ext own W s (W'.freeze seg s'.heap) s' :=
  ⟨x.le.trans (Le.freeze ..), x.alive, fun a o q z => freeze_oth (x.oth a o q z), x.kept, x.gens, x.os⟩
theorem ImplE.frz {e : Expr} {f : Cm AV} (h : ImplE c n sx e f) : ImplE c n sx e (frzE f) := by
  intro p hsx hr W0 W st s hle I b st' e Q E hQ
  unfold frzE at e
  split at e
  · rename_i v st1 e1
    split at e
    · rename_i seg r hseg
      cases e
      refine h p hsx hr W W _ s (Le.refl _) I.seg v st1 e1 Q E fun W1 val s1 x1 I1 r1 => ?_
      exact hQ _ val s1 x1.unseg (I1.unseg hseg) (frzV_ok I1.hr hseg r1)
    · cases e
  · cases e
theorem frzV_unb {seg : List (Nat × List AV)} {v : AV} (h : frzV seg v ≠ .unb) : v ≠ .unb := fun q => h (by subst q; rfl)
theorem FrV.frzAt {p : Pl} {W : Wd} {st : AS} {h : Heap} {seg : List (Nat × List AV)} {r : LH} {i : Nat} {v : AV} (H : HR c W st h) (e : st.lst = seg :: r) (F : FrV c p (W.freeze seg h) st.loc h) (F0 : FrV c p W st.loc h) (hi : st.loc[i]? = some v) :
    FrV c p (W.freeze seg h) (st.loc.set i (frzV seg v)) h := by
  obtain ⟨ml, hns, hml⟩ := F.ns
  obtain ⟨ml0, hns0, hml0⟩ := F0.ns
  refine ⟨?_, fun j y u h1 h2 h3 h4 => ?_, F.cells, F.hasCell, F.kinds, F.apart, F.wcIn, F.roleL, F.roleC, F.lo, F.scope, F.kind, F.globals, F.builtins, F.nodup⟩
  · refine ⟨ml0, hns0, fun j y u h1 h2 h3 h4 => ?_⟩
    simp only [List.getElem?_set] at h2
    by_cases hij : i = j
    · subst hij
      rw [if_pos rfl] at h2
      split at h2
      · cases h2
        obtain ⟨val, e1, r1⟩ := hml0 i y v h1 hi (frzV_unb h3) h4
        exact ⟨val, e1, frzV_ok H e r1⟩
      · cases h2
    · rw [if_neg hij] at h2
      obtain ⟨val, e1, r1⟩ := hml0 j y u h1 h2 h3 h4
      exact ⟨val, e1, r1.mono (Le.freeze ..)⟩
  · simp only [List.getElem?_set] at h2
    by_cases hij : i = j
    · subst hij
      rw [if_pos rfl] at h2
      split at h2
      · cases h2
        obtain ⟨val, a, e1, q, r1⟩ := F0.cl i y v h1 hi (frzV_unb h3) h4
        exact ⟨val, a, e1, q, frzV_ok H e r1⟩
      · cases h2
    · rw [if_neg hij] at h2
      exact F.cl j y u h1 h2 h3 h4
noncomputable def frzS (i : Nat) (f : Cm AF) : Cm AF := fun st => match f { st with lst := [] :: st.lst } with
  | some (.next, st1) => (match st1.lst, st1.loc[i]? with
    | seg :: r, some v => some (.next, { st1 with lst := r, loc := st1.loc.set i (frzV seg v) })
    | _, _ => .none)
  | _ => .none
theorem ImplS1.frz {t : Stmt} {f : Cm AF} {i : Nat} (h : ImplS1 c n sx t f) : ImplS1 c n sx t (frzS i f) := by
  intro p hsx hr W0 W st s hle I b st' e Q E hQ
  unfold frzS at e
  split at e
  · rename_i st1 e1
    split at e
    · rename_i seg r v hseg hi
      cases e
      refine h p hsx hr W W _ s (Le.refl _) I.seg .next st1 e1 Q E fun W1 fl s1 x1 I1 r1 => ?_
      have I2 := I1.unseg hseg
      refine hQ _ fl s1 x1.unseg ⟨I2.hr.loc _, FrV.frzAt I1.hr hseg I2.fr I1.fr hi⟩ ?_
      cases r1; exact .next
    · cases e
  · cases e
end
end Mine

namespace Mine

section
variable {c : Cx} {n : Nat} {sx : Sx}

set_option maxHeartbeats 4000000 in
theorem VR.inv_lst {W : Wd} {v : Value} {xs : List AV} (h : VR W v (.lst xs)) : ∃ a vs m, v = .ref a ∧ W.role a = .frz (listOf vs.toArray m) ∧ VRs W vs xs := by
  cases h with
  | lst h1 h2 => exact ⟨_, _, _, rfl, h1, h2⟩
end
end Mine

namespace Mine

section
variable {c : Cx} {n : Nat} {sx : Sx}

theorem cells_apart : ∀ (names : List (Str × NameKind)) (k : Nat) (acc : List (Str × Addr)), (∀ p ∈ acc, @LT.lt Nat _ p.2 k) → acc.Pairwise (fun x y => x.2 ≠ y.2) → (cellsFrom k names acc).Pairwise fun x y => x.2 ≠ y.2
  | [], _, _, _, h => h
  | (y, kd) :: r, k, acc, h1, h2 => by
    unfold cellsFrom
    split
    · refine cells_apart r (k + 1) _ (fun p hp => ?_) (List.pairwise_cons.mpr ⟨fun p hp => ?_, h2⟩)
      · rcases List.mem_cons.mp hp with rfl | hp
        · exact Nat.lt_succ_self _
        · exact Nat.lt_succ_of_lt (h1 p hp)
      · exact Ne.symm (Nat.ne_of_lt (h1 p hp))
    · exact cells_apart r k acc h1 h2
theorem cells_look {cm : Str → Option Value} {y : Str} {b : Addr} : ∀ {cs : List (Str × Addr)} {cells : List (Addr × Obj)}, CellsAre cm cs cells → cs.lookup y = some b → ∃ o, (b, o) ∈ cells ∧ o.data = .cell (cm y)
  | _, _, .nil, h => by cases h
  | (z, d) :: cs, _, .cons (o := o) h1 r, h => by
    rw [List.lookup_cons] at h
    split at h
    · rename_i q
      cases h
      have : y = z := eq_of_beq q
      subst this
      exact ⟨o, List.mem_cons_self, h1⟩
    · obtain ⟨o', h2, h3⟩ := cells_look r h
      exact ⟨o', List.mem_cons_of_mem _ h2, h3⟩
theorem law_okC (G : Gd c) {nm : Str} {scope : Scope} {fa : Addr} {cd : Value} {body : List Stmt} {x : Str} {others : List Str} {f : Cm AF} (hS : ImplS c n ⟨scope, x :: others, x :: others⟩ body f)
    (hn : n ≤ 80) (hk : scope.kind = .function) (hkinds : ((x :: others).all fun y => scope.names.lookup y == some .local || scope.names.lookup y == some .cell) = true) (hnd : (x :: others).Nodup)
    {s : Shared} {m cm : Str → Option Value} {cells : List (Addr × Obj)} (F : Fr c.h0 c.h0.objs.size s.heap m) (N : News c.h0 c.h0.objs.size s.heap cells) (X : CellsAre cm (cellsFrom (c.h0.objs.size + 1) scope.names []) cells)
    {a : Addr} (hm : scope.names.lookup x = some .local → m x = some (.ref a)) (hcm : scope.names.lookup x = some .cell → cm x = some (.ref a)) {vs : List Value} {ns : List Int} (hL : c.h0.IsList a vs.toArray) (hI : IntsAre vs ns)
    (hf : ∃ st', f ⟨.lsb (ns.map .int) :: List.replicate others.length .unb, [], [[]], 0⟩ = some (.ret (.bool true), st')) {Q : Flow → Shared → Prop} {E : Value → Shared → Prop}
    (hQ : ∀ s', (∀ b o, c.h0.get? b = some o → s'.heap.get? b = some o) → s'.gens = s.gens → s'.os = s.os → Q (.ret (.bool true)) s') :
    wpAny (model c.prog c.w) (callerA.deeper (envOfC nm scope c.h0.objs.size fa cd)) (execs body (envOfC nm scope c.h0.objs.size fa cd)) Q E s := by
  obtain ⟨st', hf⟩ := hf
  obtain ⟨o, ho, hc, k, hd⟩ := hL
  have hLn : c.h0.get? c.h0.objs.size = .none := get_none_of_ge (Nat.le_refl _)
  have haL : c.h0.objs.size ≠ a := fun q => by rw [← q, hLn] at ho; cases ho
  let W : Wd := ⟨fun b => if b = a then .frz o else .oth, fun _ => 0, fun _ => 0, fun _ => 0, 0, 0⟩
  let p : Pl := ⟨callerA.deeper (envOfC nm scope c.h0.objs.size fa cd), ⟨scope, x :: others, x :: others⟩, envOfC nm scope c.h0.objs.size fa cd, (x :: others).filterMap fun y => (cellsFrom (c.h0.objs.size + 1) scope.names []).lookup y⟩
  have hW : ∀ b, W.role b = .oth ∨ (b = a ∧ W.role b = .frz o) := fun b => by
    by_cases q : b = a
    · exact .inr ⟨q, if_pos q⟩
    · exact .inl (if_neg q)
  have hnm : ∀ b, ¬ W.Mut b := fun b q => by
    unfold Wd.Mut at q
    rcases hW b with z | ⟨_, z⟩ <;> rw [z] at q <;> exact q
  have hkl : ∀ y, y ∈ x :: others → scope.names.lookup y = some .local ∨ scope.names.lookup y = some .cell := fun y hy => by
    have := List.all_eq_true.mp hkinds y hy
    simpa using this
  have hcell : ∀ y b, (cellsFrom (c.h0.objs.size + 1) scope.names []).lookup y = some b → s.heap.IsCell b (cm y) ∧ b ≠ c.h0.objs.size ∧ c.h0.get? b = .none := fun y b q => by
    obtain ⟨o', h1, h2⟩ := cells_look X q
    obtain ⟨h3, h4, h5⟩ := N _ h1
    exact ⟨⟨o', h3, h2⟩, h4, h5⟩
  have I : Inv c p W ⟨.lsb (ns.map .int) :: List.replicate others.length .unb, [], [[]], 0⟩ s := by
    have first : ∀ (i : Nat) (y : Str) (v : AV), (x :: others)[i]? = some y → (AV.lsb (ns.map .int) :: List.replicate others.length .unb)[i]? = some v → v ≠ .unb → y = x ∧ v = .lsb (ns.map .int) := fun i y v h1 h2 h3 => by
      cases i with
      | zero => exact ⟨(Option.some.inj h1).symm, (Option.some.inj h2).symm⟩
      | succ i =>
        have h2' : (List.replicate others.length AV.unb)[i]? = some v := h2
        rw [List.getElem?_replicate] at h2'
        split at h2'
        · exact absurd (Option.some.inj h2').symm h3
        · cases h2'
    refine ⟨⟨F.keep, fun b q => absurd q (hnm b), fun b => ?_, fun b o' e => ?_, rfl, rfl, fun k hk => absurd hk (Nat.not_lt_zero _), (fun k i e => by simp at e), fun g hg p hp => ?_, ?_⟩,
      ⟨⟨m, F.ns, fun i y v h1 h2 h3 h4 => ?_⟩, fun i y v h1 h2 h3 h4 => ?_, fun y b q => ⟨_, (hcell y b q).1⟩, fun y hy q => ?_, hkl, cells_apart _ _ _ (fun _ h => by cases h) List.Pairwise.nil, fun b hb => mem_filterMap_lookup hb, if_neg haL, fun y b q => ⟨?_, (hcell y b q).2⟩, hLn, rfl, hk, rfl, rfl, hnd⟩⟩
    · rcases hW b with z | ⟨z1, z2⟩
      · exact .inl z
      · exact .inr ⟨o, F.keep _ _ (z1 ▸ ho)⟩
    · rcases hW b with z | ⟨z1, z2⟩
      · rw [z] at e; cases e
      · rw [z2] at e; cases e; exact F.keep _ _ (z1 ▸ ho)
    · rw [List.mem_singleton.mp hg] at hp; cases hp
    · exact List.nodup_nil
    · obtain ⟨rfl, rfl⟩ := first i y v h1 h2 h3
      exact ⟨_, hm h4, .lsb (if_pos rfl) hc hd (ints_are hI)⟩
    · obtain ⟨rfl, rfl⟩ := first i y v h1 h2 h3
      obtain ⟨b, q⟩ := Option.isSome_iff_exists.mp (cellsFrom_some (x := y) scope.names (c.h0.objs.size + 1) [] (.inl h4))
      refine ⟨_, b, q, ?_, .lsb (if_pos rfl) hc hd (ints_are hI)⟩
      have := (hcell y b q).1
      rw [hcm h4] at this
      exact this
    · obtain ⟨b, z⟩ := Option.isSome_iff_exists.mp (cellsFrom_some (x := y) scope.names (c.h0.objs.size + 1) [] (.inl q))
      exact ⟨b, z, fun _ => List.mem_filterMap.mpr ⟨y, hy, z⟩⟩
    · have : b ≠ a := fun z => by
        have := (hcell y b q).2.2
        rw [z, ho] at this; cases this
      exact if_neg this
  have hr : Room n p.A := ⟨rfl, by show 1 + claimMargin + 1 + 2 * n ≤ 900; unfold claimMargin; omega, by show 4 + 3 + 100 * n + 100 ≤ 9000; omega⟩
  refine hS p rfl hr W W _ s (Le.refl _) I _ st' hf Q E fun W1 fl s1 x1 I1 r1 => ?_
  cases r1 with
  | ret rv =>
    cases rv
    exact hQ s1 I1.hr.keep x1.gens x1.os
end
end Mine

namespace Mine

section
variable {c : Cx} {n : Nat} {sx : Sx}

theorem from_app : ∀ (names : List (Str × NameKind)) (k : Nat) (acc : List (Str × Addr)), cellsFrom k names acc = cellsFrom k names [] ++ acc
  | [], _, _ => rfl
  | (y, kd) :: r, k, acc => by
    unfold cellsFrom
    split
    · rw [from_app r (k + 1) ((y, k) :: acc), from_app r (k + 1) [(y, k)], List.append_assoc]; rfl
    · exact from_app r k acc
theorem from_mem {y : Str} {a : Addr} : ∀ {names : List (Str × NameKind)} {k : Nat} {acc : List (Str × Addr)}, (y, a) ∈ cellsFrom k names acc → (y, a) ∈ acc ∨ (y, NameKind.cell) ∈ names
  | [], _, _, h => .inl h
  | (z, kd) :: r, k, acc, h => by
    unfold cellsFrom at h
    split at h
    · rename_i q
      rcases from_mem h with h | h
      · rcases List.mem_cons.mp h with h | h
        · cases h; exact .inr (by rw [← beq_iff_eq.mp q]; exact List.mem_cons_self)
        · exact .inl h
      · exact .inr (List.mem_cons_of_mem _ h)
    · rcases from_mem h with h | h
      · exact .inl h
      · exact .inr (List.mem_cons_of_mem _ h)
theorem look_app {a b : List (Str × Addr)} {y : Str} : (a ++ b).lookup y = match a.lookup y with | some v => some v | .none => b.lookup y := by
  induction a with
  | nil => rfl
  | cons x r ih =>
    obtain ⟨z, v⟩ := x
    rw [List.cons_append, List.lookup_cons, List.lookup_cons]
    cases h : y == z
    · exact ih
    · rfl
theorem kind_one {names : List (Str × NameKind)} (h : (names.map (·.1)).Nodup) {y : Str} {k k' : NameKind} (h1 : (y, k) ∈ names) (h2 : (y, k') ∈ names) : k = k' := by
  induction names with
  | nil => cases h1
  | cons x r ih =>
    obtain ⟨n1, n2⟩ := List.nodup_cons.mp h
    rcases List.mem_cons.mp h1 with e1 | h1
    · rcases List.mem_cons.mp h2 with e2 | h2
      · rw [← e1] at e2; cases e2; rfl
      · exact absurd (List.mem_map.mpr ⟨_, h2, by rw [← e1]⟩) n1
    · rcases List.mem_cons.mp h2 with e2 | h2
      · exact absurd (List.mem_map.mpr ⟨_, h1, by rw [← e2]⟩) n1
      · exact ih n2 h1 h2
structure Comp2Is (sx : Sx) (scope : Scope) (tv cp : List Str) (caps : List Nat) : Prop where
  kind : scope.kind = .function
  names : (scope.names.all fun x => x.2 != .local || scope.names.lookup x.1 == some .local) = true
  nod : (scope.names.map (·.1)).Nodup
  free : (scope.names.all fun y => y.2 != .free || cp.contains y.1) = true
  frees : (cp.all fun y => scope.names.any fun z => z.1 == y && z.2 == .free) = true
  tvk : (tv.all fun y => (relS scope sx.sc).names.lookup y == some .local || (relS scope sx.sc).names.lookup y == some .cell && scope.names.lookup y == some .cell) = true
  cpk : (cp.all fun y => (relS scope sx.sc).names.lookup y == some .cell) = true
  cpo : (cp.all fun y => sx.sc.names.lookup y == some .cell) = true
  vars : caps.map (fun i => sx.vars[i]?) = cp.map some
  nodup : (tv ++ cp).Nodup
noncomputable def comp2Chk (sx : Sx) (scope : Scope) (tv cp : List Str) (caps : List Nat) : Bool :=
  (scope.names.all fun x => x.2 != .local || scope.names.lookup x.1 == some .local) && decide (scope.names.map (·.1)).Nodup &&
  (scope.names.all fun y => y.2 != .free || cp.contains y.1) && (cp.all fun y => scope.names.any fun z => z.1 == y && z.2 == .free) && (tv.all fun y => (relS scope sx.sc).names.lookup y == some .local || (relS scope sx.sc).names.lookup y == some .cell && scope.names.lookup y == some .cell) &&
  (cp.all fun y => (relS scope sx.sc).names.lookup y == some .cell) && (cp.all fun y => sx.sc.names.lookup y == some .cell) && decide (caps.map (fun i => sx.vars[i]?) = cp.map some) && decide (tv ++ cp).Nodup
theorem Comp2Is.of {sx : Sx} {scope : Scope} {tv cp : List Str} {caps : List Nat} (hk : scope.kind = .function) (h : comp2Chk sx scope tv cp caps = true) : Comp2Is sx scope tv cp caps := by
  unfold comp2Chk at h
  simp only [Bool.and_eq_true] at h
  obtain ⟨⟨⟨⟨⟨⟨⟨⟨b, c⟩, d⟩, e⟩, f⟩, g⟩, i⟩, j⟩, k⟩ := h
  exact ⟨hk, b, of_decide_eq_true c, d, e, f, g, i, of_decide_eq_true j, of_decide_eq_true k⟩
noncomputable def ownC (scope : Scope) (C : Addr) : List (Str × Addr) := cellsFrom (C + 1) scope.names []
noncomputable def clC (p : Pl) (scope : Scope) : List (Str × Addr) := closeL (fun y => p.env.cells.lookup y) scope.names []
noncomputable def plC (p : Pl) (scope : Scope) (tv cp : List Str) (C : Addr) : Pl := ⟨p.A, sxC p.sx scope tv cp, compEnvC scope (ownC scope C ++ clC p scope) C p.env, tv.filterMap fun y => (ownC scope C).lookup y⟩
theorem comp2_frame {p : Pl} {W : Wd} {st : AS} {s : Shared} (I : Inv c p W st s) {scope : Scope} {tv cp : List Str} {caps : List Nat} (D : Comp2Is p.sx scope tv cp caps) {C : Addr} (hC : W.role C = .oth) (hC0 : c.h0.get? C = .none) {ml : Str → Option Value} (hml : ∀ x, ml x = .none) (hns : s.heap.Ns C ml)
    (hne : ∀ y a, p.env.cells.lookup y = some a → @LT.lt Nat _ a C) (hown : ∀ y a, (y, a) ∈ ownC scope C → s.heap.IsCell a .none ∧ @LT.lt Nat _ C a ∧ W.role a = .oth ∧ c.h0.get? a = .none) (hap : (ownC scope C).Pairwise fun x y => x.2 ≠ y.2) :
    FrV c (plC p scope tv cp C) W (List.replicate tv.length .unb ++ capsL caps st.loc) s.heap := by
  have F := I.fr
  have hk : ∀ x, Env.kindOf (plC p scope tv cp C).env x = (relS scope p.sx.sc).names.lookup x := fun x => by
    show (relabel scope p.env).names.lookup x = _
    rw [rel_static F.scope]
  have hko : ∀ x, p.env.kindOf x = p.sx.sc.names.lookup x := fun x => by show p.env.scope.names.lookup x = _; rw [F.scope]
  have hT : ∀ x ∈ tv, (relS scope p.sx.sc).names.lookup x = some .local ∨ ((relS scope p.sx.sc).names.lookup x = some .cell ∧ scope.names.lookup x = some .cell) := fun x hx => by
    have := List.all_eq_true.mp D.tvk x hx
    simpa using this
  have hP : ∀ x ∈ cp, (relS scope p.sx.sc).names.lookup x = some .cell := fun x hx => beq_iff_eq.mp (List.all_eq_true.mp D.cpk x hx)
  have hO : ∀ x ∈ cp, p.sx.sc.names.lookup x = some .cell := fun x hx => beq_iff_eq.mp (List.all_eq_true.mp D.cpo x hx)
  have hF : ∀ x ∈ cp, (x, NameKind.free) ∈ scope.names := fun x hx => by
    obtain ⟨z, hz, q⟩ := List.any_eq_true.mp (List.all_eq_true.mp D.frees x hx)
    obtain ⟨q1, q2⟩ := Bool.and_eq_true_iff.mp q
    have e1 : z.1 = x := beq_iff_eq.mp q1
    have e2 : z.2 = .free := beq_iff_eq.mp q2
    rw [← e1, ← e2]; exact hz
  have noOwn : ∀ x ∈ cp, (ownC scope C).lookup x = .none := fun x hx => by
    cases q : (ownC scope C).lookup x with
    | none => rfl
    | some a =>
      rcases from_mem (mem_of_lookup q) with z | z
      · cases z
      · cases kind_one D.nod z (hF x hx)
  have memC : ∀ x a, (clC p scope).lookup x = some a → p.env.cells.lookup x = some a := fun x a q => by
    rcases closeL_mem (mem_of_lookup q) with z | z
    · cases z
    · exact z
  have two : ∀ x a, (plC p scope tv cp C).env.cells.lookup x = some a → (ownC scope C).lookup x = some a ∨ ((ownC scope C).lookup x = .none ∧ p.env.cells.lookup x = some a) := fun x a q => by
    have q' : (ownC scope C ++ clC p scope).lookup x = some a := q
    rw [look_app] at q'
    cases z : (ownC scope C).lookup x with
    | some b => rw [z] at q'; exact .inl q'
    | none => rw [z] at q'; exact .inr ⟨rfl, memC x a q'⟩
  have has : ∀ x ∈ cp, ∀ a, p.env.cells.lookup x = some a → (plC p scope tv cp C).env.cells.lookup x = some a := fun x hx a q => by
    show (ownC scope C ++ clC p scope).lookup x = some a
    rw [look_app, noOwn x hx]
    obtain ⟨b, hb⟩ := closeL_has (f := fun y => p.env.cells.lookup y) (acc := []) (.inr ⟨hF x hx, a, q⟩)
    obtain ⟨b', hb'⟩ := lookup_of_mem hb
    show (clC p scope).lookup x = some a
    have hb'' : (clC p scope).lookup x = some b' := hb'
    rw [hb'']
    rw [memC x b' hb''] at q
    exact q
  have hv : ∀ x ∈ cp, x ∈ p.sx.vars := fun x hx => by
    have : some x ∈ caps.map (fun i => p.sx.vars[i]?) := by rw [D.vars]; exact List.mem_map.mpr ⟨x, hx, rfl⟩
    obtain ⟨i, _, q⟩ := List.mem_map.mp this
    exact List.mem_of_getElem? q
  have idx : ∀ (i : Nat) (x : Str) (v : AV), (tv ++ cp)[i]? = some x → (List.replicate tv.length AV.unb ++ capsL caps st.loc)[i]? = some v → v ≠ .unb → x ∈ cp ∧ ∃ j, p.sx.vars[j]? = some x ∧ st.loc[j]? = some v := fun i x v h1 h2 h3 => by
    rcases Nat.lt_or_ge i tv.length with q | q
    · rw [List.getElem?_append_left (by simpa using q), List.getElem?_replicate] at h2
      split at h2 <;> first | (cases h2; exact absurd rfl h3) | cases h2
    · rw [List.getElem?_append_right q] at h1
      rw [List.getElem?_append_right (by simpa using q), List.length_replicate] at h2
      refine ⟨List.mem_of_getElem? h1, ?_⟩
      unfold capsL at h2
      rw [List.getElem?_map] at h2
      obtain ⟨j, hj, hv⟩ := Option.map_eq_some_iff.mp h2
      have e1 : (caps.map (fun i => p.sx.vars[i]?))[i - tv.length]? = some (p.sx.vars[j]?) := by rw [List.getElem?_map, hj]; rfl
      rw [D.vars, List.getElem?_map, h1] at e1
      refine ⟨j, (Option.some.inj e1).symm, ?_⟩
      cases hl : st.loc[j]? with
      | none => rw [hl] at hv; exact absurd hv.symm h3
      | some w => rw [hl] at hv; exact congrArg some hv
  refine ⟨⟨ml, hns, fun i x v h1 h2 h3 h4 => ?_⟩, fun i x v h1 h2 h3 h4 => ?_, fun x a q => ?_, fun x hx q => ?_, fun x hx => ?_, ?_, fun a ha => ?_, hC, fun x a q => ?_, hC0, rel_static F.scope, D.kind, F.globals, F.builtins, D.nodup⟩
  · obtain ⟨hx, _⟩ := idx i x v h1 h2 h3
    rw [hk, hP x hx] at h4; cases h4
  · obtain ⟨hx, j, j1, j2⟩ := idx i x v h1 h2 h3
    obtain ⟨val, a, e1, e2, r⟩ := F.cl j x v j1 j2 h3 (by rw [hko]; exact hO x hx)
    exact ⟨val, a, has x hx a e1, e2, r⟩
  · rcases two x a q with z | ⟨_, z⟩
    · exact ⟨_, (hown x a (mem_of_lookup z)).1⟩
    · exact F.cells x a z
  · rcases List.mem_append.mp hx with hx | hx
    · rcases hT x hx with z | ⟨_, z⟩
      · rw [hk, z] at q; cases q
      · obtain ⟨a, w⟩ := Option.isSome_iff_exists.mp (cellsFrom_some (x := x) scope.names (C + 1) [] (.inl z))
        have w' : (ownC scope C).lookup x = some a := w
        refine ⟨a, ?_, fun _ => List.mem_filterMap.mpr ⟨x, hx, w'⟩⟩
        show (ownC scope C ++ clC p scope).lookup x = some a
        rw [look_app, w']
    · obtain ⟨a, e1, _⟩ := F.hasCell x (hv x hx) (by rw [hko]; exact hO x hx)
      refine ⟨a, has x hx a e1, fun ht => ?_⟩
      exact absurd rfl ((List.nodup_append.mp D.nodup).2.2 x ht x hx)
  · rcases List.mem_append.mp hx with hx | hx
    · rcases hT x hx with z | ⟨z, _⟩
      · exact .inl ((hk x).trans z)
      · exact .inr ((hk x).trans z)
    · exact .inr ((hk x).trans (hP x hx))
  · refine List.pairwise_append.mpr ⟨hap, closeL_apart (fun y z a h1 h2 => name_of_addr F.apart (mem_of_lookup h1) (mem_of_lookup h2)) List.Pairwise.nil (fun x hx => by cases hx) D.nod (fun x hx => by cases hx), fun x hx y hy q => ?_⟩
    have h1 := (hown x.1 x.2 hx).2.1
    rcases closeL_mem (y := y.1) (a := y.2) hy with z | z
    · cases z
    · have h2 := hne y.1 y.2 z
      rw [q] at h1
      exact Nat.lt_irrefl _ (Nat.lt_trans h1 h2)
  · obtain ⟨x, hx, q⟩ := List.mem_filterMap.mp ha
    refine ⟨x, ?_⟩
    show (ownC scope C ++ clC p scope).lookup x = some a
    rw [look_app, q]
  · rcases two x a q with z | ⟨_, z⟩
    · obtain ⟨_, h2, h3, h4⟩ := hown x a (mem_of_lookup z)
      exact ⟨h3, Nat.ne_of_gt h2, h4⟩
    · exact ⟨(F.roleC x a z).1, Nat.ne_of_lt (hne x a z), (F.roleC x a z).2.2⟩
theorem comp2_out {p : Pl} {C : Addr} {W W' : Wd} {s s' : Shared} {st : AS} {new : Addr → Prop} (hnew : ∀ a, new a → s.heap.get? a = .none) (hC0 : s.heap.get? C = .none) (hCr : W'.role C = .oth) (hCb : c.h0.get? C = .none) (hcC : ∀ y a, p.env.cells.lookup y = some a → a ≠ C) (hLC : p.env.locals ≠ C)
    (x : Ext (fun a => p.Own a ∨ new a) W s W' s') (I : Inv c p W' st s') {h' : Heap} (hs : Heap.SameBut C s'.heap h') : Ext p.Own W s W' { s' with heap := h' } ∧ Inv c p W' st { s' with heap := h' } := by
  refine comp_out hC0 hCr hCb hcC hLC ⟨x.le, x.alive, x.oth, fun a o hm hn q => x.kept a o hm (fun w => ?_) q, x.gens, x.os⟩ I hs
  rcases w with w | w
  · exact hn (.inl w)
  · rw [hnew a w] at q; cases q
end
end Mine

namespace Mine

section
variable {c : Cx} {n : Nat} {sx : Sx}

noncomputable def nx2 : List AV × List AV → AS → Option (Option (AV × (List AV × List AV))) := fun p _ => match p with
  | (x :: xs, y :: ys) => some (some (.tup [x, y], (xs, ys)))
  | _ => some .none
noncomputable def size2 : List AV × List AV → AS → Nat := fun p _ => p.1.length + 1
structure J2 (z TI TO i1 i2 l1 l2 : Addr) (v1 v2 : List Value) (p : List AV × List AV) (W : Wd) (st : AS) (h : Heap) : Prop where
  at_ : ∃ k, h.IsListIter i1 l1 k ∧ h.IsListIter i2 l2 k ∧ VRs W (v1.drop k) p.1 ∧ VRs W (v2.drop k) p.2
  hz : IsZip h z TI TO .none
  ti : IsPair h TI (.ref i1) (.ref i2)
  kp : ∃ a b, IsPair h TO a b
  f1 : ∃ m, W.role l1 = .frz (listOf v1.toArray m)
  f2 : ∃ m, W.role l2 = .frz (listOf v2.toArray m)
  ro : ∀ a ∈ [z, TI, TO, i1, i2], W.role a = .oth
theorem drop_get {vs : List Value} {k : Nat} {v : Value} {r : List Value} (h : vs.drop k = v :: r) : vs.toArray[k]? = some v ∧ vs.drop (k + 1) = r := by
  have hk : k < vs.length := by
    rcases Nat.lt_or_ge k vs.length with q | q
    · exact q
    · rw [List.drop_eq_nil_of_le q] at h; cases h
  rw [List.drop_eq_getElem_cons hk] at h
  cases h
  exact ⟨by rw [List.getElem?_toArray]; exact List.getElem?_eq_getElem hk, rfl⟩
theorem drop_end {vs : List Value} {k : Nat} (h : vs.drop k = []) : vs.toArray[k]? = none := by
  rw [List.getElem?_toArray, List.getElem?_eq_none_iff]; exact List.drop_eq_nil_iff.mp h
theorem J2.alive {z TI TO i1 i2 l1 l2 : Addr} {v1 v2 : List Value} {p : List AV × List AV} {W : Wd} {st : AS} {h : Heap} (j : J2 z TI TO i1 i2 l1 l2 v1 v2 p W st h) : ∀ b ∈ [z, TI, TO, i1, i2], ∃ o, h.get? b = some o := by
  obtain ⟨k, ⟨o1, q1, _⟩, ⟨o2, q2, _⟩, _, _⟩ := j.at_
  obtain ⟨a, b, q3⟩ := j.kp
  intro b hb
  simp only [List.mem_cons, List.not_mem_nil, or_false] at hb
  rcases hb with rfl | rfl | rfl | rfl | rfl
  · exact ⟨_, j.hz⟩
  · exact ⟨_, j.ti⟩
  · exact ⟨_, q3⟩
  · exact ⟨_, q1⟩
  · exact ⟨_, q2⟩
theorem J2.keep {z TI TO i1 i2 l1 l2 : Addr} {v1 v2 : List Value} {p : List AV × List AV} {W W' : Wd} {st st' : AS} {h h' : Heap} (j : J2 z TI TO i1 i2 l1 l2 v1 v2 p W st h) (L : Le W W') (k : ∀ b ∈ [z, TI, TO, i1, i2], ∀ o, h.get? b = some o → h'.get? b = some o)
    (r : ∀ b ∈ [z, TI, TO, i1, i2], W'.role b = .oth) : J2 z TI TO i1 i2 l1 l2 v1 v2 p W' st' h' := by
  obtain ⟨n, q1, q2, q3, q4⟩ := j.at_
  obtain ⟨a, b, q5⟩ := j.kp
  obtain ⟨m1, q6⟩ := j.f1
  obtain ⟨m2, q7⟩ := j.f2
  exact ⟨⟨n, q1.at fun o => k i1 (by simp) o, q2.at fun o => k i2 (by simp) o, q3.mono L, q4.mono L⟩, k z (by simp) _ j.hz, k TI (by simp) _ j.ti, ⟨a, b, k TO (by simp) _ q5⟩, ⟨m1, L.frz _ _ q6⟩, ⟨m2, L.frz _ _ q7⟩, r⟩
theorem zip2_itr {A : Around} (hh : A.handled = .none) {z TI TO i1 i2 l1 l2 : Addr} (v1 v2 : List Value) (D : ZipApart z TI TO i1 i2 l1 l2) : Itr c A z [z, TI, TO, i1, i2] [z, TO, i1, i2] goesU nx2 (J2 z TI TO i1 i2 l1 l2 v1 v2) where
  alive := fun p W st h j => j.alive
  frame := fun own p W W' st st' s s' hno j Iv x Iv' => j.keep x.le (fun b hb o e => x.kept b o (by unfold Wd.Mut; rw [j.ro b hb]; exact fun q => q) (hno b hb) e) fun b hb => let ⟨o, e⟩ := j.alive b hb; x.oth b o e (j.ro b hb)
  wrOk := fun p W st h j b hb => by
    have hb' : b ∈ [z, TI, TO, i1, i2] := by simp at hb ⊢; rcases hb with q | q | q | q <;> simp [q]
    exact ⟨j.ro b hb', j.alive b hb'⟩
  next := fun p p' x W st s tgt hg j Iv e Q E hQ => by
    obtain ⟨k, q1, q2, q3, q4⟩ := j.at_
    obtain ⟨a, b, q5⟩ := j.kp
    obtain ⟨m1, q6⟩ := j.f1
    obtain ⟨m2, q7⟩ := j.f2
    obtain ⟨xs, ys⟩ := p
    cases tgt with
    | Tuple elts kk pos =>
      cases xs with
      | nil => cases e
      | cons x1 xs =>
        cases ys with
        | nil => cases e
        | cons y1 ys =>
          cases e
          dsimp only at q3 q4
          generalize e1 : v1.drop k = d1 at q3
          generalize e2 : v2.drop k = d2 at q4
          cases q3 with
          | @cons va _ _ _ r1 rs1 =>
            cases q4 with
            | @cons vb _ _ _ r2 rs2 =>
              obtain ⟨g1, g1'⟩ := drop_get e1
              obtain ⟨g2, g2'⟩ := drop_get e2
              refine wpAny_pyNext_zip_item D j.hz j.ti q5 q1 q2 (Iv.isList q6) (Iv.isList q7) g1 g2 fun h' a1 a2 a3 a4 a5 a6 a7 => ?_
              dsimp only
              refine wpAny_letOwnedTupleGo_zip a1 fun h2 hz2 hs2 => ?_
              have hT : s.heap.get? s.heap.objs.size = .none := get_none_of_ge (Nat.le_refl _)
              have ne : ∀ b ∈ [z, TI, TO, i1, i2], b ≠ s.heap.objs.size := fun b hb => by obtain ⟨o, ho⟩ := j.alive b hb; exact Nat.ne_of_lt (Heap.lt_size ho)
              have L := Le.set (r := .frz { cls := .type "tuple", data := .seq (List.toArray [va, vb]) }) (Iv.oth_of_none hT)
              have tT := hs2.extBut _ _ (Ne.symm (ne z (by simp))) a5
              have up : ∀ b o, b ≠ z → h'.get? b = some o → h2.get? b = some o := fun b o hb => hs2.extBut b o hb
              refine hQ _ (.ref s.heap.objs.size) h2 s.toks (.inr ⟨_, _, hT, tT, rfl⟩) (.tup (vs := [va, vb]) Wd.set_self rfl rfl (.cons (r1.mono L) (.cons (r2.mono L) .nil)))
                ⟨⟨k + 1, a3.at fun o => up i1 o D.i1z, a4.at fun o => up i2 o D.i2z, by rw [g1']; exact rs1.mono L, by rw [g2']; exact rs2.mono L⟩, hz2, up _ _ D.TIz (a7 _ _ D.TIz D.TITO D.TIi1 D.TIi2 j.ti), ⟨_, _, up _ _ D.TOz a2⟩, ⟨m1, L.frz _ _ q6⟩, ⟨m2, L.frz _ _ q7⟩, fun b hb => by rw [Wd.set_other (ne b hb)]; exact j.ro b hb⟩ fun b o hb q => ?_
              have hb4 : b ≠ z ∧ b ≠ TO ∧ b ≠ i1 ∧ b ≠ i2 := by simpa using hb
              exact up b o hb4.1 (a7 b o hb4.1 hb4.2.1 hb4.2.2.1 hb4.2.2.2 q)
    | _ => cases hg
  stop := fun p W st s j Iv e Q E hQ => by
    obtain ⟨k, q1, q2, q3, q4⟩ := j.at_
    obtain ⟨a, b, q5⟩ := j.kp
    obtain ⟨m1, q6⟩ := j.f1
    obtain ⟨m2, q7⟩ := j.f2
    obtain ⟨xs, ys⟩ := p
    dsimp only at q3 q4
    generalize e1 : v1.drop k = d1 at q3
    generalize e2 : v2.drop k = d2 at q4
    have hend : v1.toArray[k]? = none ∨ v2.toArray[k]? = none := by
      cases q3 with
      | nil => exact .inl (drop_end e1)
      | cons r1 rs1 =>
        cases q4 with
        | nil => exact .inr (drop_end e2)
        | cons r2 rs2 => cases e
    refine wpAny_pyNext_zip_end hh D j.hz j.ti q5 q1 q2 (Iv.isList q6) (Iv.isList q7) hend fun h' a7 => hQ h' s.toks fun b o hb q => ?_
    have hb4 : b ≠ z ∧ b ≠ TO ∧ b ≠ i1 ∧ b ≠ i2 := by simpa using hb
    exact a7 b o hb4.1 hb4.2.1 hb4.2.2.1 hb4.2.2.2 q
  self := fun p W st s j Q E hQ => wpAny_pyIter_zip j.hz hQ
noncomputable def zip2It : List AV → Cm (List AV × List AV) := fun xs => match xs with
  | [.lst a, .lst b] => pu (a, b)
  | _ => no
theorem ImplI.zip2 (G : Gd c) {x : Str} {p0 pos : Pos} {es : List Expr} {fs : Cm (List AV)} (hx : sx.sc.names.lookup x = some .globalImplicit) (hg : c.Glob x (.type "zip")) (h : ImplEs c n sx es fs) (hd : (x == ("__debug__" : Str)) = false := by decide) (hp : es.all plainX = true := by rfl) :
    ImplI c n sx (.Call (.Name x p0) es [] pos) goesU (bd fs zip2It) nx2 := by
  intro p hsx hr W st s I i st' e Q E hQ
  obtain ⟨ys, st1, e1, e2⟩ := bd_some e
  refine Call_ (load_glob G I (by rw [hsx]; exact hx) hg hd ?_)
  refine PyProof.Rows.callWith_type (any_false hp) (evalArgs_row hp ?_)
  refine h p hsx hr W pos W st s (Le.refl _) I ys st1 e1 _ E fun W1 vs s1 x1 I1 r1 => ?_
  unfold zip2It at e2
  split at e2
  · cases e2
    cases r1 with
    | cons r1 r1' =>
      cases r1' with
      | cons r2 r2' =>
        cases r2'
        obtain ⟨a1, v1, m1, rfl, f1, g1⟩ := r1.inv_lst
        obtain ⟨a2, v2, m2, rfl, f2, g2⟩ := r2.inv_lst
        have l1 := Heap.lt_size (I1.hr.frz _ _ f1)
        have l2 := Heap.lt_size (I1.hr.frz _ _ f2)
        refine call_zip_2 (I1.hr.isList f1) (I1.hr.isList f2) fun h' q1 q2 q3 q4 q5 _ kk => ?_
        have fresh : ∀ b ∈ [s1.heap.objs.size + 4, s1.heap.objs.size + 2, s1.heap.objs.size + 3, s1.heap.objs.size, s1.heap.objs.size + 1], s1.heap.get? b = .none := fun b hb => get_none_of_ge (by simp at hb; omega)
        have x2 : Ext p.Own W1 s1 W1 { s1 with heap := h' } := Ext.keeps _ _ kk rfl rfl
        refine wpAny_pyIter_zip q1 ?_
        refine hQ W1 _ _ _ _ _ (x1.trans x2) (I1.keeps kk) (zip2_itr hr.1 v1 v2 (zipApart_new l1 l2)) ⟨⟨0, q4, q5, g1, g2⟩, q1, q2, ⟨_, _, q3⟩, ⟨m1, f1⟩, ⟨m2, f2⟩, fun b hb => I1.hr.oth_of_none (fresh b hb)⟩ (fun b hb => ?_) (fun b hb => I1.fresh_own (fresh b hb))
        have hb' := fresh b (by simp at hb ⊢; rcases hb with q | q | q | q <;> simp [q])
        cases w : s.heap.get? b with
        | none => rfl
        | some o => obtain ⟨o1, z1⟩ := x1.alive _ o w; rw [hb'] at z1; cases z1
  · cases e2
noncomputable def turnForm (target iter : Expr) (ifs : List Expr) (em : Value → Env → Sem Unit) (e : Expr) (d : Nat) (it acc : Value) (env : Env) : Sem Fin := do
  standAt iter.pos
  match ← pyNext it with
  | none => pure (.done .next)
  | some v =>
    letOwnedTupleGo target it v
    assign target env v
    let mut ok := true
    for c in ifs do
      if ok then ok ← isTrue c env (eval c env)
    if ok then em acc env
    again (.compLoop e d it acc env)
noncomputable def em1 (elt : Expr) : Value → Env → Sem Unit := fun acc env => do let _ ← call (.builtin "list.append") [acc, ← eval elt env]
noncomputable def em2 (elt : Expr) (gens : List Comprehension) (scope : Scope) (pos : Pos) (iter : Expr) : Value → Env → Sem Unit := fun acc env => do
  let x ← eval iter env
  standAt iter.pos
  let x ← foldedSetIterable iter env x
  let _ ← runOwn (.compStart (.ListComp elt gens scope pos) 1 (← holding [x] (pyIter x)) acc env) env
theorem turn_1 (elt target iter : Expr) (ifs : List Expr) (scope : Scope) (pos : Pos) (it acc : Value) (env : Env) : compTurn (.ListComp elt [⟨target, iter, ifs, 0⟩] scope pos) 0 it acc env = turnForm target iter ifs (em1 elt) (.ListComp elt [⟨target, iter, ifs, 0⟩] scope pos) 0 it acc env := by rfl
noncomputable def em2K (elt : Expr) (gens : List Comprehension) (scope : Scope) (pos : Pos) (iter : Expr) : Value → Env → Sem Fin → Sem Fin := fun acc env k => do
  let x ← eval iter env
  standAt iter.pos
  let x ← foldedSetIterable iter env x
  let _ ← runOwn (.compStart (.ListComp elt gens scope pos) 1 (← holding [x] (pyIter x)) acc env) env
  k
noncomputable def turnK (target iter : Expr) (ifs : List Expr) (em : Value → Env → Sem Fin → Sem Fin) (e : Expr) (d : Nat) (it acc : Value) (env : Env) : Sem Fin := do
  standAt iter.pos
  match ← pyNext it with
  | none => pure (.done .next)
  | some v =>
    letOwnedTupleGo target it v
    assign target env v
    let mut ok := true
    for c in ifs do
      if ok then ok ← isTrue c env (eval c env)
    if ok then em acc env (again (.compLoop e d it acc env)) else again (.compLoop e d it acc env)
theorem em2K_eq (elt : Expr) (gens : List Comprehension) (scope : Scope) (pos : Pos) (iter : Expr) : em2K elt gens scope pos iter = fun acc env k => em2 elt gens scope pos iter acc env >>= fun _ => k := by
  funext acc env k
  unfold em2K em2
  simp only [bind_assoc, pure_bind]
theorem turn_20 (elt t1 i1 t2 i2 : Expr) (f1 f2 : List Expr) (scope : Scope) (pos : Pos) (it acc : Value) (env : Env) : compTurn (.ListComp elt [⟨t1, i1, f1, 0⟩, ⟨t2, i2, f2, 0⟩] scope pos) 0 it acc env = turnForm t1 i1 f1 (em2 elt [⟨t1, i1, f1, 0⟩, ⟨t2, i2, f2, 0⟩] scope pos i2) (.ListComp elt [⟨t1, i1, f1, 0⟩, ⟨t2, i2, f2, 0⟩] scope pos) 0 it acc env := by
  have e : compTurn (.ListComp elt [⟨t1, i1, f1, 0⟩, ⟨t2, i2, f2, 0⟩] scope pos) 0 it acc env = turnK t1 i1 f1 (em2K elt [⟨t1, i1, f1, 0⟩, ⟨t2, i2, f2, 0⟩] scope pos i2) (.ListComp elt [⟨t1, i1, f1, 0⟩, ⟨t2, i2, f2, 0⟩] scope pos) 0 it acc env := by rfl
  rw [e, em2K_eq]
  rfl
theorem turn_21 (elt t1 i1 t2 i2 : Expr) (f1 f2 : List Expr) (scope : Scope) (pos : Pos) (it acc : Value) (env : Env) : compTurn (.ListComp elt [⟨t1, i1, f1, 0⟩, ⟨t2, i2, f2, 0⟩] scope pos) 1 it acc env = turnForm t2 i2 f2 (em1 elt) (.ListComp elt [⟨t1, i1, f1, 0⟩, ⟨t2, i2, f2, 0⟩] scope pos) 1 it acc env := by rfl
theorem clo_any {elt target iter : Expr} {ifs : List Expr} {gens : List Comprehension} {scope : Scope} {pos : Pos} {d : Nat} {em : Value → Env → Sem Unit} {it acc : Value} {A : Around} {env : Env} {R : Result → Shared → Prop} {s : Shared}
    (ht : compTurn (.ListComp elt gens scope pos) d it acc env = turnForm target iter ifs em (.ListComp elt gens scope pos) d it acc env) (I : Nat → Shared → Prop)
    (turn : ∀ n s, I n s → wpAny (model c.prog c.w) A (pyNext it) (fun r s₁ => match r with
      | .none => R (.ok .next) s₁
      | some v => wpAny (model c.prog c.w) A (letOwnedTupleGo target it v) (fun _ s₁' => wpAny (model c.prog c.w) A (assign target env v) (fun _ s₂ =>
          wpAny (model c.prog c.w) A (forIn ifs true fun c r => if r = true then do let ok ← isTrue c env (eval c env); pure (ForInStep.yield ok) else pure (ForInStep.yield r)) (fun ok s₃ =>
            if ok = true then wpAny (model c.prog c.w) A (em acc env) (fun _ s₅ => ∃ m, m < n ∧ I m s₅) (fun _ _ => False) s₃
            else ∃ m, m < n ∧ I m s₃) (fun _ _ => False) s₂) (fun _ _ => False) s₁') (fun _ _ => False) s₁) (fun _ _ => False) s)
    (n : Nat) (h : I n s) : codeAny (model c.prog c.w) A (.compLoop (.ListComp elt gens scope pos) d it acc env) R s := by
  refine codeAny_loop rfl I (fun n s hI => ?_) n h
  show wpAny _ A ((compTurn (.ListComp elt gens scope pos) d it acc env).onRaise (fun x => do noteFrame x env; theTreesLotGoes x)) _ _ s
  refine wpAny_noted (wpAny_noRaise ?_)
  rw [ht]
  refine wpAny_bind (wpAny_standAt (wpAny_bind (wpAny_mono (turn n s hI) (fun r s₁ h₁ => ?_) fun _ _ h' => h')))
  cases r with
  | none => exact wpAny_pure h₁
  | some v =>
    refine wpAny_bind (wpAny_mono h₁ (fun _ s₁' h₁' => wpAny_bind (wpAny_mono h₁' (fun _ s₂ h₂ => wpAny_bind (wpAny_mono h₂ (fun ok s₃ h₃ => ?_) fun _ _ h' => h')) fun _ _ h' => h')) fun _ _ h' => h')
    cases ok with
    | false => exact wpAny_pure ⟨rfl, h₃⟩
    | true => exact wpAny_bind (wpAny_mono h₃ (fun _ s₅ h₅ => wpAny_pure ⟨rfl, h₅⟩) fun _ _ h' => h')
noncomputable def cloG {σ : Type} (nx : σ → AS → Option (Option (AV × σ))) (tgt : AV → Cm Unit) (ft : Cm Bool) (fm : Cm Unit) : Nat → σ → Cm Unit
  | 0, _ => no
  | m + 1, i => fun st => match nx i st with
    | .none => .none
    | some .none => some ((), st)
    | some (some (x, i')) => (bd (tgt x) fun _ => bd ft fun ok => if ok then (bd fm fun _ => cloG nx tgt ft fm m i') else cloG nx tgt ft fm m i') st
theorem FrV.pokeW {q : Pl} {W W' : Wd} {loc : List AV} {h h' : Heap} {wr : List Addr} (F : FrV c q W loc h) (H : ∀ a, h.get? a = .none → W.role a = .oth) (hL : ∀ b ∈ wr, b ≠ q.env.locals) (hC : ∀ b ∈ wr, ∀ y, q.env.cells.lookup y ≠ some b)
    (k : ∀ b o, b ∉ wr → h.get? b = some o → h'.get? b = some o) (hN : NewW W h W' h') : FrV c q W' loc h' := by
  have F1 : FrV c q W loc h' := F.grow fun b o hb e => k b o (fun z => by
    rcases hb with hb | ⟨y, hb⟩
    · exact hL b z hb
    · exact hC b z y hb) e
  rcases hN with rfl | ⟨T, o, hT, hT', rfl⟩
  · exact F1
  · refine F1.mono (Le.set (H T hT)) ?_ fun y a z => ?_
    · rw [Wd.set_other]
      · exact F1.roleL
      · intro z
        obtain ⟨ml, ⟨o1, es, ep, ho, _⟩, _⟩ := F.ns
        rw [z, hT] at ho; cases ho
    · rw [Wd.set_other]
      · exact (F1.roleC y a z).1
      · intro z'
        obtain ⟨v', o1, ho, _⟩ := F.cells y a z
        rw [z', hT] at ho; cases ho
theorem Inv.pokeW {q : Pl} {W W' : Wd} {st : AS} {s : Shared} {h' : Heap} {tk : Nat} {wr : List Addr} (I : Inv c q W st s) (hb0 : ∀ b ∈ wr, c.h0.get? b = .none) (hL : ∀ b ∈ wr, b ≠ q.env.locals) (hC : ∀ b ∈ wr, ∀ y, q.env.cells.lookup y ≠ some b) (ho : ∀ b ∈ wr, W.role b = .oth)
    (k : ∀ b o, b ∉ wr → s.heap.get? b = some o → h'.get? b = some o) (hN : NewW W s.heap W' h') : Inv c q W' st { s with heap := h', toks := tk } := by
  refine ⟨?_, I.fr.pokeW (fun a => I.hr.oth_of_none) hL hC k hN⟩
  have H1 : HR c W st h' := I.hr.grow fun b o hb e => k b o (fun z => by
    rcases hb with ⟨o', hb⟩ | hb
    · rw [hb0 b z] at hb; cases hb
    · exact hb (ho b z)) e
  rcases hN with rfl | ⟨T, o, hT, hT', rfl⟩
  · exact H1
  · exact H1.newFrz (I.hr.oth_of_none hT) hT'
theorem Ext.pokeW {own : Addr → Prop} {W0 W W' : Wd} {s0 s : Shared} {h' : Heap} {tk : Nat} {wr : List Addr} (x : Ext own W0 s0 W s) (H : ∀ a, s.heap.get? a = .none → W.role a = .oth) (I0 : ∀ b ∈ wr, s0.heap.get? b = .none)
    (k : ∀ b o, b ∉ wr → s.heap.get? b = some o → h'.get? b = some o) (hN : NewW W s.heap W' h') : Ext own W0 s0 W' { s with heap := h', toks := tk } := by
  have nw : ∀ b o, s0.heap.get? b = some o → b ∉ wr := fun b o e z => by rw [I0 b z] at e; cases e
  have a1 : ∀ b o, s0.heap.get? b = some o → ∃ o', h'.get? b = some o' := fun b o e => let ⟨o1, e1⟩ := x.alive b o e; ⟨o1, k b o1 (nw b o e) e1⟩
  have a2 : ∀ b o, ¬ W0.Mut b → ¬ own b → s0.heap.get? b = some o → h'.get? b = some o := fun b o hm hn e => k b o (nw b o e) (x.kept b o hm hn e)
  rcases hN with rfl | ⟨T, o, hT, hT', rfl⟩
  · exact ⟨x.le, a1, x.oth, a2, x.gens, x.os⟩
  · refine ⟨x.le.trans (Le.set (H T hT)), a1, fun b o e z => ?_, a2, x.gens, x.os⟩
    rw [Wd.set_other]
    · exact x.oth b o e z
    · intro z'
      obtain ⟨o1, e1⟩ := x.alive b o e
      rw [z', hT] at e1; cases e1
theorem NewW.le {W W' : Wd} {h h' : Heap} (hN : NewW W h W' h') (H : ∀ a, h.get? a = .none → W.role a = .oth) : Le W W' := by
  rcases hN with rfl | ⟨T, o, hT, hT', rfl⟩
  · exact Le.refl _
  · exact Le.set (H T hT)
structure Car (p : Pl) (wr : List Addr) (Φ : Wd → Shared → Prop) : Prop where
  ext : ∀ W s W' s', Φ W s → Ext p.Own W s W' s' → Φ W' s'
  poke : ∀ W s W' h' tk, Φ W s → (∀ a, s.heap.get? a = .none → W.role a = .oth) → (∀ b o, b ∉ wr → s.heap.get? b = some o → h'.get? b = some o) → NewW W s.heap W' h' → Φ W' { s with heap := h', toks := tk }
theorem clo_loop {p : Pl} {I : Addr} {fp wr : List Addr} {gt : Expr → Bool} {σ : Type} {nx : σ → AS → Option (Option (AV × σ))} {J : σ → Wd → AS → Heap → Prop} (T : Itr c p.A I fp wr gt nx J) (hfp : ∀ b ∈ fp, ¬ p.Own b) (hr : Room n p.A)
    {elt target iter : Expr} {ifs : List Expr} {gens : List Comprehension} {scope : Scope} {pos : Pos} {d : Nat} {em : Value → Env → Sem Unit} {acc : Value} {K : Nat}
    (hturn : compTurn (.ListComp elt gens scope pos) d (.ref I) acc p.env = turnForm target iter ifs em (.ListComp elt gens scope pos) d (.ref I) acc p.env)
    {tgt : AV → Cm Unit} {ft : Cm Bool} {fm : Cm Unit} (hg : gt target = true) (h1 : ImplA c n p.sx target tgt) (ht : ImplC c n p.sx ifs ft) (h2 : ∀ W, VR W acc (.lob K) → Ok c p W (em acc p.env) (fun _ _ _ => True) fm)
    (hb0 : ∀ b ∈ wr, c.h0.get? b = .none) (hL : ∀ b ∈ wr, b ≠ p.env.locals) (hC : ∀ b ∈ wr, ∀ y, p.env.cells.lookup y ≠ some b) {Φ : Wd → Shared → Prop} (Cr : Car p wr Φ)
    {W : Wd} {s : Shared} {st : AS} (Iv : Inv c p W st s) (ph : Φ W s) (hK : VR W acc (.lob K)) {m : Nat} {i : σ} (j : J i W st s.heap) {st' : AS} (e : cloG nx tgt ft fm m i st = some ((), st')) {R : Result → Shared → Prop}
    (hR : ∀ W' s', Φ W' s' → Inv c p W' st' s' → VR W' acc (.lob K) → R (.ok .next) s') : codeAny (model c.prog c.w) p.A (.compLoop (.ListComp elt gens scope pos) d (.ref I) acc p.env) R s := by
  obtain ⟨P, hP⟩ : ∃ P : Nat → Shared → Prop, ∀ k s', P k s' ↔ ∃ W' st1 i', Φ W' s' ∧ Inv c p W' st1 s' ∧ VR W' acc (.lob K) ∧ J i' W' st1 s'.heap ∧ cloG nx tgt ft fm k i' st1 = some ((), st') := ⟨_, fun _ _ => Iff.rfl⟩
  refine clo_any hturn P ?_ m ((hP _ _).mpr ⟨W, st, i, ph, Iv, hK, j, e⟩)
  intro k s1 hPk
  obtain ⟨W1, st1, i1, ph1, Iv1, hK1, j1, e1⟩ := (hP _ _).mp hPk
  have ho1 : ∀ b ∈ wr, W1.role b = .oth := fun b hb => (T.wrOk i1 W1 st1 s1.heap j1 b hb).1
  have H1 : ∀ a, s1.heap.get? a = .none → W1.role a = .oth := fun a => Iv1.hr.oth_of_none
  cases k with
  | zero => cases e1
  | succ k =>
    simp only [cloG] at e1
    split at e1
    · cases e1
    · rename_i hnx
      cases e1
      refine wpAny_mono (T.stop i1 W1 st' s1 j1 Iv1.hr hnx (fun s2 => R (.ok .next) s2) (fun _ _ => False) fun h' tk hk => ?_) (fun q s2 hq => ?_) fun _ _ q => q
      · exact hR W1 _ (Cr.poke _ _ _ _ _ ph1 H1 hk (.inl rfl)) (Iv1.pokeW hb0 hL hC ho1 hk (.inl rfl)) hK1
      · cases q with
        | none => exact hq
        | some => exact hq.elim
    · rename_i xv i2 hnx
      obtain ⟨u, st2, e2, e3⟩ := bd_some e1
      obtain ⟨ok, st3, e4, e5⟩ := bd_some e3
      refine wpAny_mono (T.next i1 i2 xv W1 st1 s1 target hg j1 Iv1.hr hnx (fun v s2 => wpAny (model c.prog c.w) p.A (assign target p.env v) (fun _ s₂ =>
          wpAny (model c.prog c.w) p.A (forIn ifs true fun c r => if r = true then do let ok ← isTrue c p.env (eval c p.env); pure (ForInStep.yield ok) else pure (ForInStep.yield r)) (fun ok s₃ =>
            if ok = true then wpAny (model c.prog c.w) p.A (em acc p.env) (fun _ s₅ => ∃ m, m < k + 1 ∧ P m s₅) (fun _ _ => False) s₃
            else ∃ m, m < k + 1 ∧ P m s₃) (fun _ _ => False) s₂) (fun _ _ => False) s2) (fun _ _ => False) fun W2 v h' tk hN rv j2 hk => ?_) (fun q s2 hq => ?_) fun _ _ q => q
      · have I2 := Iv1.pokeW (tk := tk) hb0 hL hC ho1 hk hN
        have ph2 := Cr.poke _ _ _ _ tk ph1 H1 hk hN
        refine h1 p rfl hr W2 v xv rv W2 st1 _ (Le.refl _) I2 u st2 e2 _ _ fun W3 _ s3 x3 I3 _ => ?_
        have j3 := T.frame p.Own i2 W2 W3 st1 st2 { s1 with heap := h', toks := tk } s3 hfp j2 I2.hr x3 I3.hr
        refine ht p rfl hr W3 W3 st2 s3 (Le.refl _) I3 ok st3 e4 _ _ fun W4 ok' s4 x4 I4 r4 => ?_
        subst r4
        have j4 := T.frame p.Own i2 W3 W4 st2 st3 s3 s4 hfp j3 I3.hr x4 I4.hr
        have ph4 := Cr.ext _ _ _ _ (Cr.ext _ _ _ _ ph2 x3) x4
        have hK4 := ((hK1.mono (hN.le H1)).mono x3.le).mono x4.le
        cases ok' with
        | false =>
          rw [if_neg Bool.false_ne_true] at e5 ⊢
          exact ⟨k, Nat.lt_succ_self _, (hP _ _).mpr ⟨W4, st3, i2, ph4, I4, hK4, j4, e5⟩⟩
        | true =>
          rw [if_pos rfl] at e5 ⊢
          obtain ⟨u5, st5, e6, e7⟩ := bd_some e5
          refine h2 W4 hK4 W4 st3 s4 (Le.refl _) I4 u5 st5 e6 _ _ fun W5 _ s5 x5 I5 _ => ?_
          have j5 := T.frame p.Own i2 W4 W5 st3 st5 s4 s5 hfp j4 I4.hr x5 I5.hr
          exact ⟨k, Nat.lt_succ_self _, (hP _ _).mpr ⟨W5, st5, i2, Cr.ext _ _ _ _ ph4 x5, I5, hK4.mono x5.le, j5, e7⟩⟩
      · cases q with
        | none => exact hq.elim
        | some v => exact hq
noncomputable def emit1 (fe : Cm AV) (K : Nat) : Cm Unit := bd fe fun v => bd (appendM (.lob K) [v]) fun _ => pu ()
theorem emit1_ok {elt : Expr} {fe : Cm AV} (h : ImplE c n sx elt fe) {p : Pl} (hsx : p.sx = sx) (hr : Room n p.A) {W : Wd} {acc : Value} {K : Nat} (hK : VR W acc (.lob K)) : Ok c p W (em1 elt acc p.env) (fun _ _ _ => True) (emit1 fe K) := by
  refine Ok.bind (h p hsx hr W) fun W1 v x hle rv => ?_
  refine Ok.bind (append_ok (n := n) p hr W1 acc (.lob K) [v] [x] (hK.mono hle) (.cons rv .nil)) fun W2 _ _ _ _ => Ok.pure fun _ _ => trivial
theorem compStart_1 {elt t1 i1 t2 i2 : Expr} {f1 f2 : List Expr} {scope : Scope} {pos : Pos} {it acc : Value} {env : Env} {A : Around} {R : Result → Shared → Prop} {s : Shared}
    (h0 : codeAny (model c.prog c.w) A (.compLoop (.ListComp elt [⟨t1, i1, f1, 0⟩, ⟨t2, i2, f2, 0⟩] scope pos) 1 it acc env) R s)
    (h : wpAny (model c.prog c.w) A (pyIter it) (fun it' s' => codeAny (model c.prog c.w) A (.compLoop (.ListComp elt [⟨t1, i1, f1, 0⟩, ⟨t2, i2, f2, 0⟩] scope pos) 1 it' acc env) R s') (notedBy (model c.prog c.w) A env fun x s' => R (.error x) s') s) :
    codeAny (model c.prog c.w) A (.compStart (.ListComp elt [⟨t1, i1, f1, 0⟩, ⟨t2, i2, f2, 0⟩] scope pos) 1 it acc env) R s := by
  refine codeAny_of_tree ?_
  show wpAny _ _ ((compStart (.ListComp elt [⟨t1, i1, f1, 0⟩, ⟨t2, i2, f2, 0⟩] scope pos) 1 it acc env).onRaise (fun x => do noteFrame x env; standAt theWindowsPlace)) _ _ s
  refine wpAny_notedAt ?_
  unfold compStart
  show wpAny _ _ (ask >>= _) _ _ s
  refine wpAny_bind (wpAny_askSetting (wpAny_ite ?_))
  split
  · exact wpAny_bind (wpAny_pure (wpAny_pure ⟨rfl, h0⟩))
  · refine wpAny_bind (wpAny_rule ?_)
    show wpAny _ _ (standAt i2.pos >>= _) _ _ s
    exact wpAny_bind (wpAny_standAt (wpAny_bind (wpAny_mono h (fun it' s' h' => wpAny_pure ⟨rfl, h'⟩) fun _ _ x => x)))
noncomputable def emit2 {σ : Type} (f : Cm σ) (size : σ → AS → Nat) (nx : σ → AS → Option (Option (AV × σ))) (tgt : AV → Cm Unit) (ft : Cm Bool) (fe : Cm AV) (K : Nat) : Cm Unit := bd f fun i st => cloG nx tgt ft (emit1 fe K) (size i st) i st
theorem emit2_ok {σ : Type} {gt : Expr → Bool} {f : Cm σ} {size : σ → AS → Nat} {nx : σ → AS → Option (Option (AV × σ))} {tgt : AV → Cm Unit} {ft : Cm Bool} {fe : Cm AV} {elt t1 i1 t2 i2 : Expr} {f1 f2 : List Expr} {scope : Scope} {pos : Pos}
    (h0 : ImplI c n sx i2 gt f nx) (h1 : ImplA c n sx t2 tgt) (ht : ImplC c n sx f2 ft) (h2 : ImplE c n sx elt fe) (hg : gt t2 = true) (hs : ∀ env x, foldedSetIterable i2 env x = pure x) {p : Pl} (hsx : p.sx = sx) (hr : Room n p.A) {W : Wd} {acc : Value} {K : Nat} (hK : VR W acc (.lob K)) :
    Ok c p W (em2 elt [⟨t1, i1, f1, 0⟩, ⟨t2, i2, f2, 0⟩] scope pos i2 acc p.env) (fun _ _ _ => True) (emit2 f size nx tgt ft fe K) := by
  intro W1 st s hle I b st' e Q E hQ
  obtain ⟨i, st1, e1, e2⟩ := bd_some e
  unfold em2
  refine wpAny_bind (wpAny_mono (h0 p hsx hr W1 st s I i st1 e1 (fun it s2 => codeAny (model c.prog c.w) p.A (.compStart (.ListComp elt [⟨t1, i1, f1, 0⟩, ⟨t2, i2, f2, 0⟩] scope pos) 1 it acc p.env) (fun r s' => match r with | .ok _ => Q () s' | .error _ => False) s2) E fun W2 s2 It fp wr J x2 I2 T j hwr hfp => ?_)
    (fun x s1 q1 => wpAny_bind (wpAny_standAt (wpAny_bind (wpAny_of_eq (hs p.env x) (wpAny_bind (wpAny_holding (wpAny_mono q1 (fun it s2 q2 => wpAny_bind (wpAny_runOwn (codeAny_mono q2 fun r s' q3 => ?_))) fun _ _ q => q))))))) fun _ _ q => q)
  · subst hsx
    have loop : codeAny (model c.prog c.w) p.A (.compLoop (.ListComp elt [⟨t1, i1, f1, 0⟩, ⟨t2, i2, f2, 0⟩] scope pos) 1 (.ref It) acc p.env) (fun r s' => match r with | .ok _ => Q () s' | .error _ => False) s2 := by
      refine clo_loop T hfp hr (turn_21 _ _ _ _ _ _ _ _ _ _ _ _) hg h1 ht (fun W hK => emit1_ok h2 rfl hr hK) (fun b hb => I.hr.base_none (hwr b hb)) (fun b hb q => ?_) (fun b hb y q => ?_) (Φ := fun W' s' => Ext p.Own W1 s W' s') ⟨fun _ _ _ _ x y => x.trans y, fun _ _ _ _ _ x H k hN => x.pokeW H hwr k hN⟩ I2 x2 ((hK.mono hle).mono x2.le) j e2 fun W' s' ph Iv _ => hQ W' b s' ph Iv trivial
      · obtain ⟨ml, ⟨o1, es, ep, ho, _⟩, _⟩ := I.fr.ns
        rw [← q, hwr b hb] at ho; cases ho
      · obtain ⟨v', o1, ho, _⟩ := I.fr.cells y b q
        rw [hwr b hb] at ho; cases ho
    exact compStart_1 loop (T.self i W2 _ _ j _ _ loop)
  · cases r with
    | ok f => exact wpAny_pure q3
    | error x => exact q3.elim
noncomputable def compN {σ : Type} (k : Nat) (caps : List Nat) (f : Cm σ) (size : σ → AS → Nat) (nx : σ → AS → Option (Option (AV × σ))) (tgt : AV → Cm Unit) (ft : Cm Bool) (fm : Nat → Cm Unit) : Cm AV := bd f fun i st =>
  match cloG nx tgt ft (fm st.nl) (size i st) i ⟨List.replicate k .unb ++ capsL caps st.loc, st.ins, pushL1 st.nl [] st.lst, st.nl + 1⟩ with
  | some (_, st') => some (.lob st.nl, { st' with loc := st.loc })
  | .none => .none
noncomputable def ImplM (c : Cx) (n : Nat) (sx : Sx) (em : Value → Env → Sem Unit) (fm : Nat → Cm Unit) : Prop := ∀ p : Pl, p.sx = sx → Room n p.A → ∀ W acc K, VR W acc (.lob K) → Ok c p W (em acc p.env) (fun _ _ _ => True) (fm K)
theorem ImplM.one {elt : Expr} {fe : Cm AV} (h : ImplE c n sx elt fe) : ImplM c n sx (em1 elt) (emit1 fe) := fun _ hsx hr _ _ _ hK => emit1_ok h hsx hr hK
theorem ImplM.two {σ : Type} {gt : Expr → Bool} {f : Cm σ} {size : σ → AS → Nat} {nx : σ → AS → Option (Option (AV × σ))} {tgt : AV → Cm Unit} {ft : Cm Bool} {fe : Cm AV} {elt t1 i1 t2 i2 : Expr} {f1 f2 : List Expr} {scope : Scope} {pos : Pos}
    (h0 : ImplI c n sx i2 gt f nx) (h1 : ImplA c n sx t2 tgt) (ht : ImplC c n sx f2 ft) (h2 : ImplE c n sx elt fe) (hg : gt t2 = true := by rfl) (hs : ∀ env x, foldedSetIterable i2 env x = pure x := by intro _ _; rfl) :
    ImplM c n sx (em2 elt [⟨t1, i1, f1, 0⟩, ⟨t2, i2, f2, 0⟩] scope pos i2) (emit2 f size nx tgt ft fe) := fun _ hsx hr _ _ _ hK => emit2_ok h0 h1 ht h2 hg hs hsx hr hK
theorem comp3_core {σ : Type} {gt : Expr → Bool} {f : Cm σ} {size : σ → AS → Nat} {nx : σ → AS → Option (Option (AV × σ))} {tgt : AV → Cm Unit} {ft : Cm Bool} {fm : Nat → Cm Unit} {elt target iter : Expr} {ifs : List Expr} {rest : List Comprehension} {em : Value → Env → Sem Unit} {scope : Scope} {pos pos' : Pos} {tv cp : List Str} {caps : List Nat}
    (D : Comp2Is sx scope tv cp caps) (hturn : ∀ it acc env, compTurn (.ListComp elt (⟨target, iter, ifs, 0⟩ :: rest) scope pos) 0 it acc env = turnForm target iter ifs em (.ListComp elt (⟨target, iter, ifs, 0⟩ :: rest) scope pos) 0 it acc env)
    (h0 : ImplI c n sx iter gt f nx) (h1 : ImplA c n (sxC sx scope tv cp) target tgt) (ht : ImplC c n (sxC sx scope tv cp) ifs ft) (h2 : ImplM c n (sxC sx scope tv cp) em fm) (hg : gt target = true) (hs : ∀ env x, foldedSetIterable iter env x = pure x)
    {p : Pl} (hsx : p.sx = sx) (hr : Room n p.A) {W : Wd} {st st' : AS} {s : Shared} (I : Inv c p W st s) {b : AV} (e : compN tv.length caps f size nx tgt ft fm st = some (b, st')) {use : Option (Value → Sem Unit)} {Q : Value → Shared → Prop} {E : Value → Shared → Prop}
    (hEnd : ∀ W' acc s' C (new : Addr → Prop), (∀ a, new a → s.heap.get? a = .none) → s.heap.get? C = .none → ¬ p.Own C → W'.role C = .oth → c.h0.get? C = .none → (∃ m, s'.heap.Ns C m) → (∀ y a, p.env.cells.lookup y = some a → a ≠ C) → p.env.locals ≠ C → Ext (fun a => p.Own a ∨ new a) W s W' s' → Inv c p W' st' s' → VR W' acc b → compPost (model c.prog c.w) p.A E use Q acc C (.ok .next) s') :
    wpAny (model c.prog c.w) p.A (comprehension (.ListComp elt (⟨target, iter, ifs, 0⟩ :: rest) scope pos) scope p.env pos' (newList []) false (eval iter p.env) use) Q E s := by
  subst hsx
  obtain ⟨i, st1, e1, e2⟩ := bd_some e
  split at e2
  case h_2 => cases e2
  rename_i u st2 he2
  cases e2
  have hcells : ∀ y, (y, NameKind.free) ∈ scope.names → ∃ a, p.env.cells.lookup y = some a := fun y hy => by
    have h1 := List.all_eq_true.mp D.free _ hy
    have hcp : y ∈ cp := by simpa using h1
    have hv : y ∈ p.sx.vars := by
      have : some y ∈ caps.map (fun i => p.sx.vars[i]?) := by rw [D.vars]; exact List.mem_map.mpr ⟨y, hcp, rfl⟩
      obtain ⟨i, _, q⟩ := List.mem_map.mp this
      exact List.mem_of_getElem? q
    obtain ⟨a, e1, _⟩ := I.fr.hasCell y hv (by
      show p.env.scope.names.lookup y = _
      rw [I.fr.scope]; exact beq_iff_eq.mp (List.all_eq_true.mp D.cpo y hcp))
    exact ⟨a, e1⟩
  refine wpAny_comprehension_free rfl (hs p.env) (closure_is hcells) D.kind (fun x hx hl => ?_) (h0 p rfl hr W st s I i st1 e1 _ E fun W1 s1 It fp wr J x1 I1 T j hwr hfp => ?_)
  · have := List.all_eq_true.mp D.names x hx
    rw [hl] at this
    simpa using this
  refine newLob_ok (VRs.nil (W := W1)) W1 st1 s1 (Le.refl _) I1 (.lob st1.nl) ⟨st1.loc, st1.ins, pushL1 st1.nl [] st1.lst, st1.nl + 1⟩ (by simp [newLob]) _ E fun W2 acc s2 x2 I2 r2 => ?_
  unfold newFunctionEnv
  simp only [Option.isSome_some, if_true]
  refine wpAny_bind (wpAny_alloc ?_)
  refine wpAny_bind (wpAny_layCells _ (fun name kind cells => by cases hkc : kind == NameKind.cell <;> simp [hkc]) _ _ _ _ ?_)
  rw [List.forIn_nil]
  refine wpAny_bind (wpAny_pure (wpAny_pure ?_))
  have hsz : (s2.heap.push { cls := .type "dict", data := .dict #[] }).objs.size = s2.heap.objs.size + 1 := Heap.size_push ..
  have okc := cellsFrom_ok scope.names (s2.heap.push { cls := .type "dict", data := .dict #[] }) (s2.heap.objs.size + 1) [] ⟨fun _ _ hm => (nomatch hm), List.Pairwise.nil⟩ (by rw [hsz]; exact Nat.le_refl _)
  rw [hsz] at okc
  dsimp only
  rw [hsz, from_app]
  generalize hh1 : pushCells (s2.heap.push { cls := .type "dict", data := .dict #[] }) scope.names = h₁ at okc ⊢
  have hns0 : h₁.Ns s2.heap.objs.size (fun _ => .none) := by rw [← hh1]; exact (Heap.Ns.new s2.heap (.type "dict")).keeps (pushCells_keeps _ _)
  have k3 : ∀ b o, s2.heap.get? b = some o → h₁.get? b = some o := fun b o e => by rw [← hh1]; exact pushCells_keeps _ _ b o (Heap.get?_push_of_some _ e)
  generalize hCd : s2.heap.objs.size = C at hns0 okc ⊢
  have hCn : s2.heap.get? C = .none := get_none_of_ge (by rw [← hCd]; exact Nat.le_refl _)
  have hOn : ∀ y a, (y, a) ∈ ownC scope C → s2.heap.get? a = .none := fun y a q => get_none_of_ge (by have := (okc.empty y a q).2; rw [hCd]; exact Nat.le_of_succ_le this)
  have x12 := x1.trans x2
  have back : ∀ {a : Addr}, s2.heap.get? a = .none → s1.heap.get? a = .none := fun {a} h => by
    cases z : s1.heap.get? a with
    | none => rfl
    | some o => obtain ⟨o1, z1⟩ := x2.alive _ o z; rw [h] at z1; cases z1
  have back0 : ∀ {a : Addr}, s2.heap.get? a = .none → s.heap.get? a = .none := fun {a} h => by
    cases z : s.heap.get? a with
    | none => rfl
    | some o => obtain ⟨o1, z1⟩ := x12.alive _ o z; rw [h] at z1; cases z1
  have hCo : ¬ p.Own C := I2.fresh_own hCn
  have hCr : W2.role C = .oth := I2.hr.oth_of_none hCn
  have hCb : c.h0.get? C = .none := I2.hr.base_none hCn
  have hLC : p.env.locals ≠ C := fun q => hCo (.inl q.symm)
  have hcLt : ∀ y a, p.env.cells.lookup y = some a → @LT.lt Nat _ a C := fun y a q => by rw [← hCd]; exact I2.fr.cellLt q
  have hcC : ∀ y a, p.env.cells.lookup y = some a → a ≠ C := fun y a q => Nat.ne_of_lt (hcLt y a q)
  have x3 : Ext p.Own W2 s2 W2 { s2 with heap := h₁ } := Ext.keeps _ _ k3 rfl rfl
  have I3 : Inv c p W2 ⟨st1.loc, st1.ins, pushL1 st1.nl [] st1.lst, st1.nl + 1⟩ { s2 with heap := h₁ } := I2.keeps k3
  have F' := comp2_frame (p := p) (s := { s2 with heap := h₁ }) I3 D hCr hCb (fun _ => rfl) hns0 hcLt (fun y a q => ⟨(okc.empty y a q).1, (okc.empty y a q).2, I2.hr.oth_of_none (hOn y a q), I2.hr.base_none (hOn y a q)⟩) okc.apart
  have I' : Inv c (plC p scope tv cp C) W2 ⟨List.replicate tv.length .unb ++ capsL caps st1.loc, st1.ins, pushL1 st1.nl [] st1.lst, st1.nl + 1⟩ { s2 with heap := h₁ } := ⟨I3.hr.loc _, F'⟩
  have own' : ∀ a, (plC p scope tv cp C).Own a → s2.heap.get? a = .none := fun a q => by
    rcases q with q | q
    · have : a = C := q
      rw [this]; exact hCn
    · obtain ⟨x, hx, z⟩ := List.mem_filterMap.mp q
      exact hOn x a (mem_of_lookup z)
  have j3 := T.frame p.Own i W1 W2 st1 ⟨List.replicate tv.length .unb ++ capsL caps st1.loc, st1.ins, pushL1 st1.nl [] st1.lst, st1.nl + 1⟩ s1 { s2 with heap := h₁ } hfp j I1.hr (x2.trans x3) I'.hr
  have wrA : ∀ b ∈ wr, ∃ o, s1.heap.get? b = some o := fun b hb => let ⟨_, o, q⟩ := T.wrOk i W1 st1 s1.heap j b hb; ⟨o, q⟩
  have wrL : ∀ b ∈ wr, b ≠ p.env.locals := fun b hb q => by
    obtain ⟨ml, ⟨o1, es, ep, ho, _⟩, _⟩ := I.fr.ns
    rw [← q, hwr b hb] at ho; cases ho
  have wrC : ∀ b ∈ wr, ∀ y, p.env.cells.lookup y ≠ some b := fun b hb y q => by
    obtain ⟨v', o1, ho, _⟩ := I.fr.cells y b q
    rw [hwr b hb] at ho; cases ho
  have dead : ∀ b o, s1.heap.get? b = some o → s2.heap.get? b ≠ .none := fun b o q z => by rw [back z] at q; cases q
  have oL : ¬ (plC p scope tv cp C).Own p.env.locals := fun q => by
    obtain ⟨ml, ⟨o1, es, ep, ho, _⟩, _⟩ := I2.fr.ns
    rw [own' _ q] at ho; cases ho
  have oC : ∀ y a, p.env.cells.lookup y = some a → ¬ (plC p scope tv cp C).Own a := fun y a q z => by
    obtain ⟨v, o, ho, _⟩ := I2.fr.cells y a q
    rw [own' _ z] at ho; cases ho
  have loop : codeAny (model c.prog c.w) (plC p scope tv cp C).A (.compLoop (.ListComp elt (⟨target, iter, ifs, 0⟩ :: rest) scope pos) 0 (.ref It) acc (plC p scope tv cp C).env) (compPost (model c.prog c.w) p.A E use Q acc C) { s2 with heap := h₁ } := by
    refine clo_loop (p := plC p scope tv cp C) T (fun b hb q => ?_) hr (hturn _ _ _) hg h1 ht (fun W hK => h2 (plC p scope tv cp C) rfl hr W acc st1.nl hK) (fun b hb => I.hr.base_none (hwr b hb)) (fun b hb q => ?_) (fun b hb y q => ?_)
      (Φ := fun W' s' => Ext (fun a => p.Own a ∨ s2.heap.get? a = .none) W s W' s' ∧ FrV c p W' st1.loc s'.heap) ⟨fun _ _ _ _ x y => ⟨x.1.trans (y.weaken fun a q => .inr (own' a q)), x.2.ext y oL oC⟩, fun _ _ _ _ _ x H k hN => ⟨x.1.pokeW H hwr k hN, x.2.pokeW H wrL wrC k hN⟩⟩
      I' ⟨(x12.trans x3).weaken fun _ q => .inl q, I3.fr⟩ r2 j3 he2 fun W' s' ph Iv' hK' => ?_
    · obtain ⟨o, z⟩ := T.alive i W1 st1 s1.heap j b hb
      exact dead b o z (own' b q)
    · obtain ⟨o, z⟩ := wrA b hb
      have : b = C := q
      rw [this] at z
      exact dead C o z hCn
    · have q' : (ownC scope C ++ clC p scope).lookup y = some b := q
      rw [look_app] at q'
      cases w : (ownC scope C).lookup y with
      | some b' =>
        rw [w] at q'
        cases q'
        obtain ⟨o, z⟩ := wrA b hb
        exact dead b o z (hOn y b (mem_of_lookup w))
      | none =>
        rw [w] at q'
        rcases closeL_mem (mem_of_lookup q') with z | z
        · cases z
        · exact wrC b hb y z
    · obtain ⟨ml, hn', _⟩ := Iv'.fr.ns
      exact hEnd W' acc s' C (fun a => s2.heap.get? a = .none) (fun a h => back0 h) (back0 hCn) hCo Iv'.fr.roleL hCb ⟨ml, hn'⟩ hcC hLC ph.1 ⟨Iv'.hr.loc _, ph.2⟩ hK'
  exact codeAny_compStart_list loop (T.self i W2 _ _ j3 _ _ loop)
theorem ImplE.compN {σ : Type} {gt : Expr → Bool} {f : Cm σ} {size : σ → AS → Nat} {nx : σ → AS → Option (Option (AV × σ))} {tgt : AV → Cm Unit} {ft : Cm Bool} {fm : Nat → Cm Unit} {elt target iter : Expr} {ifs : List Expr} {rest : List Comprehension} {em : Value → Env → Sem Unit} {scope : Scope} {pos : Pos} {tv cp : List Str} {caps : List Nat}
    (D : Comp2Is sx scope tv cp caps) (h0 : ImplI c n sx iter gt f nx) (h1 : ImplA c n (sxC sx scope tv cp) target tgt) (ht : ImplC c n (sxC sx scope tv cp) ifs ft) (h2 : ImplM c n (sxC sx scope tv cp) em fm)
    (hturn : ∀ it acc env, compTurn (.ListComp elt (⟨target, iter, ifs, 0⟩ :: rest) scope pos) 0 it acc env = turnForm target iter ifs em (.ListComp elt (⟨target, iter, ifs, 0⟩ :: rest) scope pos) 0 it acc env) (hg : gt target = true := by rfl) (hs : ∀ env x, foldedSetIterable iter env x = pure x := by intro _ _; rfl) :
    ImplE c n sx (.ListComp elt (⟨target, iter, ifs, 0⟩ :: rest) scope pos) (compN tv.length caps f size nx tgt ft fm) := by
  intro p hsx hr W0 W st s hle I b st' e Q E hQ
  rw [eval_ListComp]
  refine comp3_core D hturn h0 h1 ht h2 hg hs hsx hr I e fun W' acc s' C new q0 q1 q2 q3 q4 q5 q6 q7 x' I' r' => ?_
  obtain ⟨m, q5⟩ := q5
  refine ⟨m, q5, fun h' hsb => ?_⟩
  obtain ⟨x2, I2⟩ := comp2_out q0 q1 q3 q4 q6 q7 x' I' hsb
  exact hQ W' acc _ x2 I2 r'
theorem ImplS1.assignCompN {σ : Type} {gt : Expr → Bool} {f : Cm σ} {size : σ → AS → Nat} {nx : σ → AS → Option (Option (AV × σ))} {tgt : AV → Cm Unit} {ft : Cm Bool} {fm : Nat → Cm Unit} {elt target iter : Expr} {ifs : List Expr} {rest : List Comprehension} {em : Value → Env → Sem Unit} {scope : Scope} {pos spos py : Pos} {tv cp : List Str} {caps : List Nat} {y : Str} {i : Nat}
    (D : Comp2Is sx scope tv cp caps) (h0 : ImplI c n sx iter gt f nx) (h1 : ImplA c n (sxC sx scope tv cp) target tgt) (ht : ImplC c n (sxC sx scope tv cp) ifs ft) (h2 : ImplM c n (sxC sx scope tv cp) em fm)
    (hturn : ∀ it acc env, compTurn (.ListComp elt (⟨target, iter, ifs, 0⟩ :: rest) scope pos) 0 it acc env = turnForm target iter ifs em (.ListComp elt (⟨target, iter, ifs, 0⟩ :: rest) scope pos) 0 it acc env) (hi : sx.vars[i]? = some y) (hw : sx.wr[i]? = some y)
    (hsw : swapsWith (.ListComp elt (⟨target, iter, ifs, 0⟩ :: rest) scope pos) (some (.Name y py)) spos.line (envS sx.sc) = pure true := by rfl) (hg : gt target = true := by rfl) (hs : ∀ env x, foldedSetIterable iter env x = pure x := by intro _ _; rfl) :
    ImplS1 c n sx (.Assign [.Name y py] (.ListComp elt (⟨target, iter, ifs, 0⟩ :: rest) scope pos) spos) (asgM (compN tv.length caps f size nx tgt ft fm) (setV i)) := by
  intro p hsx hr W0 W st s hle I b st' e Q E hQ
  obtain ⟨v, st1, e1, e2⟩ := bd_some e
  obtain ⟨u, st2, e3, e4⟩ := bd_some e2
  cases e4
  have hsc : p.env.scope = sx.sc := by rw [I.fr.scope, hsx]
  rw [exec_Assign_Name_used _ _ _ _ (by rw [swaps1_static hsc]; exact hsw)]
  refine wpAny_bind (wpAny_standAt (wpAny_bind ?_))
  show wpAny _ p.A (do let _ ← comprehension (.ListComp elt (⟨target, iter, ifs, 0⟩ :: rest) scope pos) scope p.env _ (newList []) false (eval iter p.env) (some (PySem.assign (Expr.Name y py) p.env))) _ _ s
  refine wpAny_bind (wpAny_mono (comp3_core (use := some (PySem.assign (Expr.Name y py) p.env)) (Q := fun _ s' => Q .next s') (E := E) D hturn h0 h1 ht h2 hg hs hsx hr I e1 fun W' acc s' C new q0 q1 q2 q3 q4 q5 q6 q7 x' I' r' => ?_) (fun _ s' hq => wpAny_pure (wpAny_pure hq)) fun _ _ q => q)
  obtain ⟨m, q5⟩ := q5
  show wpAny _ _ (PySem.assign (Expr.Name y py) p.env acc) _ E s'
  refine ImplA.name (n := n) hi hw p hsx hr W' acc v r' W' st1 s' (Le.refl _) I' u st' e3 _ E fun W2 _ s2 x2 I2 _ => ?_
  have kC : ∀ o, s'.heap.get? C = some o → s2.heap.get? C = some o := fun o q => x2.kept C o (by unfold Wd.Mut; rw [q3]; exact fun z => z) q2 q
  refine ⟨m, q5.at' kC, fun h' hsb => ?_⟩
  obtain ⟨o, _, _, ho, _⟩ := q5
  obtain ⟨x3, I3⟩ := comp2_out (c := c) q0 q1 (x2.oth C o ho q3) q4 q6 q7 (x'.trans (x2.weaken fun _ q => .inl q)) I2 hsb
  exact hQ W2 .next _ x3 I3 .next
end
end Mine

namespace Mine

section
variable {prog : Program} {w : World} {A : Around} {E : Value → Shared → Prop} {s : Shared}

noncomputable def Cmps (prog : Program) (w : World) (A : Around) (E : Value → Shared → Prop) (s : Shared) (O : KeyOrd) (key : Value → O.α) (kd : SortKind) (a₀ : Array Keyed) : Prop :=
  ∀ x y : Keyed, x ∈ a₀.toList → y ∈ a₀.toList → ∀ (st : SortSt) (Q : Option Bool → SortSt → Prop), kindOf st = kd → Q (some (O.blt (key x.1) (key y.1))) st → wpS (model prog w) A E s (lt' x y) Q st
noncomputable def kx {O : KeyOrd} (key : Value → O.α) (xs : Array Keyed) (i : Nat) : O.α := match xs[i]? with
  | some p => key p.1
  | .none => key .none
theorem kx_congr {O : KeyOrd} {key : Value → O.α} {xs ys : Array Keyed} {i j : Nat} (h : xs[i]? = ys[j]?) : kx key xs i = kx key ys j := by unfold kx; rw [h]
noncomputable def Up (O : KeyOrd) (key : Value → O.α) (xs : Array Keyed) (lo n : Nat) : Prop := ∀ i j, i ≤ j → j < n → O.kle (kx key xs (lo + i)) (kx key xs (lo + j))
noncomputable def Dn (O : KeyOrd) (key : Value → O.α) (xs : Array Keyed) (lo n : Nat) : Prop := ∀ i j, i ≤ j → j < n → O.kle (kx key xs (lo + j)) (kx key xs (lo + i))
structure SB (a₀ : Array Keyed) (kd : SortKind) (pn : Array (Nat × Nat × Nat)) (b : Array Keyed) (lo : Nat) (st : SortSt) : Prop where
  perm : (arrOf st).Perm a₀
  kind : kindOf st = kd
  failed : failedOf st = none
  pend : pendingOf st = pn
  low : ∀ k, k < lo → (arrOf st)[k]? = b[k]?
variable {O : KeyOrd} {key : Value → O.α} {kd : SortKind} {a₀ b : Array Keyed} {pn : Array (Nat × Nat × Nat)} {lo : Nat}
theorem SB.size {st : SortSt} (B : SB a₀ kd pn b lo st) : (arrOf st).size = a₀.size := B.perm.size_eq
theorem SB.set {st : SortSt} (B : SB a₀ kd pn b lo st) {xs : Array Keyed} (hp : xs.Perm (arrOf st)) (hl : ∀ k, k < lo → xs[k]? = (arrOf st)[k]?) : SB a₀ kd pn b lo (setArr st xs) :=
  ⟨hp.trans B.perm, B.kind, B.failed, B.pend, fun k hk => (hl k hk).trans (B.low k hk)⟩
theorem SB.mem {st : SortSt} (B : SB a₀ kd pn b lo st) {i : Nat} (hi : i < a₀.size) : ∃ x, (arrOf st)[i]? = some x ∧ x ∈ a₀.toList ∧ kx key (arrOf st) i = key x.1 := by
  have hi' : i < (arrOf st).size := by rw [B.size]; exact hi
  have e : (arrOf st)[i]? = some (arrOf st)[i] := getElem?_pos _ i hi'
  refine ⟨_, e, (Array.perm_iff_toList_perm.mp B.perm).mem_iff.mp (by simp), ?_⟩
  unfold kx; rw [e]
theorem ltAt_ok (C : Cmps prog w A E s O key kd a₀) {st : SortSt} (B : SB a₀ kd pn b lo st) {i j : Nat} {Q : Option Bool → SortSt → Prop} (hi : i < a₀.size) (hj : j < a₀.size) (h : Q (some (O.blt (kx key (arrOf st) i) (kx key (arrOf st) j))) st) :
    wpS (model prog w) A E s (ltAt' i j) Q st := by
  obtain ⟨x, e1, m1, k1⟩ := B.mem (key := key) hi
  obtain ⟨y, e2, m2, k2⟩ := B.mem (key := key) hj
  rw [k1, k2] at h
  rw [ltAt'_eq]
  refine wpS_bind (wpS_get ?_)
  show wpS _ _ _ _ (do let x ← elem' (arrOf st) i; let y ← elem' (arrOf st) j; lt' x y) Q st
  rw [elem'_eq, elem'_eq, e1, e2]
  exact wpS_bind (wpS_pure (wpS_bind (wpS_pure (C x y m1 m2 st Q B.kind h))))
theorem kx_mirror {xs : Array Keyed} {i j : Nat} (hj : j ≤ xs.size) (k : Nat) : kx key (mirror xs i j ((j - i) / 2)) k = if i ≤ k ∧ k < j then kx key xs (i + j - 1 - k) else kx key xs k := by
  have e := getElem?_mirror_all (i := i) hj k
  split at e
  · rename_i h; rw [if_pos h]; exact kx_congr e
  · rename_i h; rw [if_neg h]; exact kx_congr e
theorem mirror_low {xs : Array Keyed} {i j : Nat} (hj : j ≤ xs.size) {k : Nat} (h : k < i) : (mirror xs i j ((j - i) / 2))[k]? = xs[k]? := by
  rw [getElem?_mirror_all hj k, if_neg (by omega)]
theorem kx_bubble {xs : Array Keyed} {src d : Nat} (hs : src < xs.size) (hd : d ≤ src) (k : Nat) : kx key (bubble xs src d) k = if k = src - d then kx key xs src else if src - d < k ∧ k ≤ src then kx key xs (k - 1) else kx key xs k := by
  have e := getElem?_bubble hs d hd k
  split at e
  · rename_i h; rw [if_pos h]; exact kx_congr e
  · rename_i h
    rw [if_neg h]
    split at e
    · rename_i h2; rw [if_pos h2]; exact kx_congr e
    · rename_i h2; rw [if_neg h2]; exact kx_congr e
theorem bubble_low {xs : Array Keyed} {src d : Nat} (hs : src < xs.size) (hd : d ≤ src) {k : Nat} (h : k < src - d) : (bubble xs src d)[k]? = xs[k]? := by
  rw [getElem?_bubble hs d hd k, if_neg (by omega), if_neg (by omega)]
theorem rev_ok {st : SortSt} {i j : Nat} {Q : Unit → SortSt → Prop} (h : Q () (setArr st (mirror (arrOf st) i j ((j - i) / 2)))) : wpS (model prog w) A E s (reverseSlice' i j) Q st := by
  rw [reverseSlice'_eq]; exact wpS_modify h
theorem Up.snoc {xs : Array Keyed} {n : Nat} (h : Up O key xs lo (n + 1)) (q : O.kle (kx key xs (lo + n)) (kx key xs (lo + (n + 1)))) : Up O key xs lo (n + 2) := fun i j hij hj => by
  rcases Nat.lt_or_eq_of_le (Nat.le_of_lt_succ hj) with z | rfl
  · exact h i j hij z
  · rcases Nat.lt_or_eq_of_le hij with z | rfl
    · exact KeyOrd.kle_trans (h i n (Nat.le_of_lt_succ z) (Nat.lt_succ_self n)) q
    · exact KeyOrd.kle_refl _
theorem Dn.snoc {xs : Array Keyed} {n : Nat} (h : Dn O key xs lo (n + 1)) (q : O.kle (kx key xs (lo + (n + 1))) (kx key xs (lo + n))) : Dn O key xs lo (n + 2) := fun i j hij hj => by
  rcases Nat.lt_or_eq_of_le (Nat.le_of_lt_succ hj) with z | rfl
  · exact h i j hij z
  · rcases Nat.lt_or_eq_of_le hij with z | rfl
    · exact KeyOrd.kle_trans q (h i n (Nat.le_of_lt_succ z) (Nat.lt_succ_self n))
    · exact KeyOrd.kle_refl _
theorem zero_one {i : Nat} (h : i < 1) : i = 0 := Nat.lt_one_iff.mp h
theorem Up.one {xs : Array Keyed} : Up O key xs lo 1 := fun i j hij hj => by
  obtain rfl := zero_one hj
  rw [Nat.le_zero.mp hij]; exact KeyOrd.kle_refl _
theorem Dn.one {xs : Array Keyed} : Dn O key xs lo 1 := fun i j hij hj => by
  obtain rfl := zero_one hj
  rw [Nat.le_zero.mp hij]; exact KeyOrd.kle_refl _
theorem mir_ar {i k t : Nat} (h1 : i ≤ k) (h2 : k < t + 1) : i ≤ i + (t + 1) - 1 - k ∧ i + (t + 1) - 1 - k < t + 1 := by omega
theorem mirror_eq {xs : Array Keyed} {i t : Nat} (hj : t + 1 ≤ xs.size) (h : ∀ k, i ≤ k → k < t + 1 → kx key xs k = kx key xs t) (k : Nat) : kx key (mirror xs i (t + 1) ((t + 1 - i) / 2)) k = kx key xs k := by
  rw [kx_mirror hj]
  split
  · rename_i z
    obtain ⟨z1, z2⟩ := mir_ar z.1 z.2
    rw [h _ z1 z2, h k z.1 z.2]
  · rfl
noncomputable def ascL (lo a m : Nat) : StateT SortSt Sem AscSt := forIn [a:m] ((none, a) : AscSt) fun _ c => do
  let x ← ltAt' (lo + c.snd) (lo + c.snd - 1)
  match x with
  | some less => if less = true then pure (ForInStep.done (none, c.snd)) else pure (ForInStep.yield (none, c.snd + 1))
  | _ => pure (ForInStep.done (some none, c.snd))
noncomputable def finL (lo n m : Nat) : StateT SortSt Sem (Option Nat) := do
  reverseSlice' lo (lo + n)
  let c ← ascL lo n m
  match c.fst with
  | some r => pure r
  | none => pure (some c.snd)
noncomputable def desL (lo n m : Nat) : StateT SortSt Sem DescSt := forIn [n:m] ((none, n, 0) : DescSt) fun _ c => do
  let x ← ltAt' (lo + c.snd.fst) (lo + c.snd.fst - 1)
  match x with
  | some less =>
    if less = true then
      if c.snd.snd > 0 then do
        reverseSlice' (lo + c.snd.fst - (c.snd.snd + 1)) (lo + c.snd.fst)
        pure (ForInStep.yield (none, c.snd.fst + 1, 0))
      else pure (ForInStep.yield (none, c.snd.fst + 1, 0))
    else do
      let x ← ltAt' (lo + c.snd.fst - 1) (lo + c.snd.fst)
      match x with
      | some more => if more = true then pure (ForInStep.done (none, c.snd.fst, c.snd.snd)) else pure (ForInStep.yield (none, c.snd.fst + 1, c.snd.snd + 1))
      | _ => pure (ForInStep.done (some none, c.snd.fst, c.snd.snd))
  | _ => pure (ForInStep.done (some none, c.snd.fst, c.snd.snd))
noncomputable def desP (lo n m : Nat) : StateT SortSt Sem (Option Nat) := do
  liftM (rule "list.sort.descending-run")
  let c ← desL lo (n + 1) m
  match c.fst with
  | some r => pure r
  | none =>
    if c.snd.snd > 0 then do
      reverseSlice' (lo + c.snd.fst - (c.snd.snd + 1)) (lo + c.snd.fst)
      finL lo c.snd.fst m
    else finL lo c.snd.fst m
theorem run_eq (lo m : Nat) : countRun' lo m = (do
    let c ← ascL lo 1 m
    match c.fst with
    | some r => pure r
    | none =>
      if (c.snd == m) = true then pure (some c.snd)
      else if c.snd > 1 then do
        let x ← ltAt' lo (lo + c.snd - 1)
        match x with
        | some rose => if rose = true then pure (some c.snd) else do
            reverseSlice' lo (lo + c.snd)
            desP lo c.snd m
        | _ => pure none
      else desP lo c.snd m) := by kernel_rfl
theorem SB.lt (B : 1 ≤ 1) {x m : Nat} (hm : lo + m ≤ a₀.size) (h : x < m) : lo + x < a₀.size := Nat.lt_of_lt_of_le (Nat.add_lt_add_left h lo) hm
theorem asc_ok (C : Cmps prog w A E s O key kd a₀) {st : SortSt} {a m : Nat} {Q : AscSt → SortSt → Prop} (B : SB a₀ kd pn b lo st) (hm : lo + m ≤ a₀.size) (ham : a + 1 ≤ m) (hs : Up O key (arrOf st) lo (a + 1))
    (h : ∀ n, a ≤ n → n + 1 ≤ m → Up O key (arrOf st) lo (n + 1) → (n + 1 = m ∨ O.klt (kx key (arrOf st) (lo + (n + 1))) (kx key (arrOf st) (lo + n))) → Q (none, n + 1) st) : wpS (model prog w) A E s (ascL lo (a + 1) m) Q st := by
  unfold ascL
  refine wpS_forRange (I := fun x c st' => st' = st ∧ c = (none, x) ∧ Up O key (arrOf st) lo x) (fun x c st' hax hxm hI => ?_) (fun c st' hI => ?_) ⟨rfl, rfl, hs⟩
  · obtain ⟨rfl, rfl, hu⟩ := hI
    cases x with
    | zero => exact absurd hax (Nat.not_succ_le_zero a)
    | succ x =>
      refine wpS_bind (ltAt_ok (i := lo + (x + 1)) (j := lo + x) C B (SB.lt (Nat.le_refl 1) hm hxm) (SB.lt (Nat.le_refl 1) hm (Nat.lt_of_succ_lt hxm)) ?_)
      cases q : O.blt (kx key (arrOf st') (lo + (x + 1))) (kx key (arrOf st') (lo + x)) with
      | true => exact wpS_pure (h x (Nat.le_of_succ_le_succ hax) (Nat.le_of_lt hxm) hu (.inr q))
      | false => exact wpS_pure ⟨rfl, rfl, hu.snoc q⟩
  · obtain ⟨rfl, rfl, hu⟩ := hI
    rw [Nat.max_eq_right ham] at hu ⊢
    obtain ⟨n, rfl⟩ := Nat.exists_eq_add_of_le' (Nat.le_trans (Nat.le_add_left 1 a) ham)
    exact h n (Nat.le_of_succ_le_succ ham) (Nat.le_refl _) hu (.inl rfl)
theorem fin_ar {i y lo : Nat} (h : i < y + 1) : (lo ≤ lo + i ∧ lo + i < lo + (y + 1)) ∧ lo + (lo + (y + 1)) - 1 - (lo + i) = lo + (y - i) := by omega
theorem fin_ok (C : Cmps prog w A E s O key kd a₀) {st : SortSt} {n m : Nat} {Q : Option Nat → SortSt → Prop} (B : SB a₀ kd pn b lo st) (hm : lo + m ≤ a₀.size) (hnm : n + 1 ≤ m) (hs : Dn O key (arrOf st) lo (n + 1))
    (h : ∀ k st', SB a₀ kd pn b lo st' → 1 ≤ k → k ≤ m → Up O key (arrOf st') lo k → Q (some k) st') : wpS (model prog w) A E s (finL lo (n + 1) m) Q st := by
  unfold finL
  have hsz : lo + (n + 1) ≤ (arrOf st).size := by rw [B.size]; exact Nat.le_trans (Nat.add_le_add_left hnm lo) hm
  have B' : SB a₀ kd pn b lo (setArr st (mirror (arrOf st) lo (lo + (n + 1)) ((lo + (n + 1) - lo) / 2))) := B.set (mirror_perm _ _ _ _) fun k hk => mirror_low hsz hk
  refine wpS_bind (rev_ok (wpS_bind (asc_ok C B' hm hnm (fun i j hij hj => ?_) fun k _ hk2 hu _ => wpS_pure (h (k + 1) _ B' (Nat.le_add_left 1 k) hk2 hu))))
  show O.kle (kx key (mirror (arrOf st) lo (lo + (n + 1)) ((lo + (n + 1) - lo) / 2)) (lo + i)) (kx key (mirror (arrOf st) lo (lo + (n + 1)) ((lo + (n + 1) - lo) / 2)) (lo + j))
  obtain ⟨i1, i2⟩ := fin_ar (lo := lo) (Nat.lt_of_le_of_lt hij hj)
  obtain ⟨j1, j2⟩ := fin_ar (lo := lo) hj
  rw [kx_mirror hsz, kx_mirror hsz, if_pos i1, if_pos j1, i2, j2]
  exact hs (n - j) (n - i) (Nat.sub_le_sub_left hij n) (Nat.lt_succ_of_le (Nat.sub_le n i))
noncomputable def Eqs (O : KeyOrd) (key : Value → O.α) (xs : Array Keyed) (lo z q : Nat) : Prop := ∀ i, i ≤ q → kx key xs (lo + (z + i)) = kx key xs (lo + (z + q))
theorem Eqs.turn {xs : Array Keyed} {z q : Nat} (he : Eqs O key xs lo z q) (hsz : lo + (z + q + 1) ≤ xs.size) (k : Nat) : kx key (mirror xs (lo + z) (lo + (z + q + 1)) ((lo + (z + q + 1) - (lo + z)) / 2)) k = kx key xs k :=
  mirror_eq (t := lo + (z + q)) hsz (fun k h1 h2 => by
    obtain ⟨i, rfl⟩ := Nat.exists_eq_add_of_le h1
    rw [Nat.add_assoc]
    refine he i (Nat.le_of_add_le_add_left (a := lo + z) ?_)
    rw [Nat.add_assoc lo z q]
    exact Nat.le_of_lt_succ h2) k
theorem start_ar (lo z q : Nat) : lo + (z + q + 1) - (q + 1) = lo + z := by rw [Nat.add_assoc z q 1, ← Nat.add_assoc, Nat.add_sub_cancel]
theorem des_ok (C : Cmps prog w A E s O key kd a₀) {st : SortSt} {n m : Nat} {Q : DescSt → SortSt → Prop} (B : SB a₀ kd pn b lo st) (hm : lo + m ≤ a₀.size) (hnm : n + 1 ≤ m) (hs : Dn O key (arrOf st) lo (n + 1))
    (h : ∀ z q st', SB a₀ kd pn b lo st' → z + q + 1 ≤ m → Dn O key (arrOf st') lo (z + q + 1) → Eqs O key (arrOf st') lo z q → Q (none, z + q + 1, q) st') : wpS (model prog w) A E s (desL lo (n + 1) m) Q st := by
  unfold desL
  obtain ⟨P, hP⟩ : ∃ P : Nat → DescSt → SortSt → Prop, ∀ x c st', P x c st' ↔ ∃ z q, x = z + q + 1 ∧ c = (none, x, q) ∧ SB a₀ kd pn b lo st' ∧ Dn O key (arrOf st') lo x ∧ Eqs O key (arrOf st') lo z q := ⟨_, fun _ _ _ => Iff.rfl⟩
  have zero : ∀ xs : Array Keyed, ∀ z, Eqs O key xs lo z 0 := fun xs z i hi => by rw [Nat.le_zero.mp hi]
  refine wpS_forRange (I := P) (fun x c st' hax hxm hI => ?_) (fun c st' hI => ?_) ((hP _ _ _).mpr ⟨n, 0, rfl, rfl, B, hs, zero _ n⟩)
  · obtain ⟨z, q, rfl, rfl, B', hd, he⟩ := (hP _ _ _).mp hI
    have hsz : lo + (z + q + 1) ≤ (arrOf st').size := by rw [B'.size]; exact Nat.le_trans (Nat.add_le_add_left (Nat.le_of_lt hxm) lo) hm
    have l1 := SB.lt (lo := lo) (Nat.le_refl 1) hm hxm
    have l2 := SB.lt (lo := lo) (Nat.le_refl 1) hm (Nat.lt_of_succ_lt hxm)
    refine wpS_bind (ltAt_ok (i := lo + (z + q + 1)) (j := lo + (z + q)) C B' l1 l2 ?_)
    cases less : O.blt (kx key (arrOf st') (lo + (z + q + 1))) (kx key (arrOf st') (lo + (z + q))) with
    | true =>
      have hd' : Dn O key (arrOf st') lo (z + q + 1 + 1) := hd.snoc (KeyOrd.kle_of_klt less)
      dsimp only
      rw [if_pos rfl]
      by_cases hq0 : q > 0
      · rw [if_pos hq0, start_ar]
        refine wpS_bind (rev_ok (wpS_pure ((hP _ _ _).mpr ⟨z + q + 1, 0, rfl, rfl, B'.set (mirror_perm _ _ _ _) (fun k hk => mirror_low hsz (Nat.lt_of_lt_of_le hk (Nat.le_add_right lo z))), fun i j hij hj => ?_, zero _ _⟩)))
        show O.kle (kx key (mirror (arrOf st') _ _ _) _) (kx key (mirror (arrOf st') _ _ _) _)
        rw [he.turn hsz, he.turn hsz]
        exact hd' i j hij hj
      · rw [if_neg hq0]
        exact wpS_pure ((hP _ _ _).mpr ⟨z + q + 1, 0, rfl, rfl, B', hd', zero _ _⟩)
    | false =>
      dsimp only
      rw [if_neg Bool.false_ne_true]
      refine wpS_bind (ltAt_ok (i := lo + (z + q)) (j := lo + (z + q + 1)) C B' l2 l1 ?_)
      cases more : O.blt (kx key (arrOf st') (lo + (z + q))) (kx key (arrOf st') (lo + (z + q + 1))) with
      | true => exact wpS_pure (h z q st' B' (Nat.le_of_lt hxm) hd he)
      | false =>
        have eqx : kx key (arrOf st') (lo + (z + q + 1)) = kx key (arrOf st') (lo + (z + q)) := KeyOrd.kle_antisymm more less
        refine wpS_pure ((hP _ _ _).mpr ⟨z, q + 1, rfl, rfl, B', hd.snoc more, fun i hi => ?_⟩)
        rcases Nat.lt_or_eq_of_le hi with y | rfl
        · exact (he i (Nat.le_of_lt_succ y)).trans eqx.symm
        · rfl
  · obtain ⟨z, q, hx, rfl, B', hd, he⟩ := (hP _ _ _).mp hI
    rw [Nat.max_eq_right hnm] at hx hd ⊢
    rw [hx] at hd ⊢
    exact h z q st' B' (Nat.le_of_eq hx.symm) hd he
theorem desP_ok (C : Cmps prog w A E s O key kd a₀) {st : SortSt} {n m : Nat} {Q : Option Nat → SortSt → Prop} (B : SB a₀ kd pn b lo st) (hm : lo + m ≤ a₀.size) (hnm : n + 1 ≤ m) (hs : Dn O key (arrOf st) lo (n + 1))
    (h : ∀ k st', SB a₀ kd pn b lo st' → 1 ≤ k → k ≤ m → Up O key (arrOf st') lo k → Q (some k) st') : wpS (model prog w) A E s (desP lo n m) Q st := by
  unfold desP
  refine wpS_bind (wpS_lift (wpAny_rule ⟨rfl, ?_⟩))
  refine wpS_bind (des_ok C B hm hnm hs fun z q st' B' hk hd he => ?_)
  dsimp only
  have hsz : lo + (z + q + 1) ≤ (arrOf st').size := by rw [B'.size]; exact Nat.le_trans (Nat.add_le_add_left hk lo) hm
  by_cases hq0 : q > 0
  · rw [if_pos hq0, start_ar]
    refine wpS_bind (rev_ok (fin_ok C (B'.set (mirror_perm _ _ _ _) fun k hk => mirror_low hsz (Nat.lt_of_lt_of_le hk (Nat.le_add_right lo z))) hm hk (fun i j hij hj => ?_) h))
    show O.kle (kx key (mirror (arrOf st') _ _ _) _) (kx key (mirror (arrOf st') _ _ _) _)
    rw [he.turn hsz, he.turn hsz]
    exact hd i j hij hj
  · rw [if_neg hq0]
    exact fin_ok C B' hm hk hd h
theorem run_ok (C : Cmps prog w A E s O key kd a₀) {st : SortSt} {m : Nat} {Q : Option Nat → SortSt → Prop} (B : SB a₀ kd pn b lo st) (hm : lo + m ≤ a₀.size) (h1 : 1 ≤ m)
    (h : ∀ k st', SB a₀ kd pn b lo st' → 1 ≤ k → k ≤ m → Up O key (arrOf st') lo k → Q (some k) st') : wpS (model prog w) A E s (countRun' lo m) Q st := by
  rw [run_eq]
  refine wpS_bind (asc_ok (a := 0) C B hm h1 Up.one fun n _ hn hu hor => ?_)
  dsimp only
  by_cases hnm : n + 1 = m
  · rw [if_pos (beq_iff_eq.mpr hnm)]
    exact wpS_pure (h _ st B (Nat.le_add_left 1 n) hn hu)
  · rw [if_neg (fun z => hnm (beq_iff_eq.mp z))]
    have hlt := hor.resolve_left hnm
    have hn2 : n + 1 + 1 ≤ m := Nat.lt_of_le_of_ne hn hnm
    have hsz : lo + (0 + n + 1) ≤ (arrOf st).size := by rw [B.size, Nat.zero_add]; exact Nat.le_trans (Nat.add_le_add_left hn lo) hm
    by_cases hgt : n + 1 > 1
    · rw [if_pos hgt]
      refine wpS_bind (ltAt_ok (i := lo) (j := lo + n) C B (SB.lt (x := 0) (Nat.le_refl 1) hm h1) (SB.lt (Nat.le_refl 1) hm hn) ?_)
      cases rose : O.blt (kx key (arrOf st) lo) (kx key (arrOf st) (lo + n)) with
      | true => exact wpS_pure (h _ st B (Nat.le_add_left 1 n) hn hu)
      | false =>
        have all : Eqs O key (arrOf st) lo 0 n := fun i hi => by
          rw [Nat.zero_add, Nat.zero_add]
          have a1 := hu 0 i (Nat.zero_le _) (Nat.lt_succ_of_le hi)
          have a2 := hu i n hi (Nat.lt_succ_self n)
          exact KeyOrd.kle_antisymm a2 (KeyOrd.kle_trans rose a1)
        have tn := all.turn hsz
        rw [Nat.zero_add] at tn
        have lw : ∀ i, i < n + 1 → kx key (arrOf st) (lo + i) = kx key (arrOf st) (lo + n) := fun i hi => by
          have := all i (Nat.le_of_lt_succ hi)
          rwa [Nat.zero_add, Nat.zero_add] at this
        rw [Nat.zero_add] at hsz
        refine wpS_bind (rev_ok (desP_ok C (B.set (mirror_perm _ _ _ _) fun k hk => mirror_low hsz hk) hm hn2 (Dn.snoc (fun i j hij hj => ?_) ?_) h))
        · show O.kle (kx key (mirror (arrOf st) _ _ _) _) (kx key (mirror (arrOf st) _ _ _) _)
          have t1 := tn (lo + j)
          have t2 := tn (lo + i)
          rw [Nat.add_zero] at t1 t2
          rw [t1, t2, lw j hj, lw i (Nat.lt_of_le_of_lt hij hj)]
          exact KeyOrd.kle_refl _
        · show O.kle (kx key (mirror (arrOf st) _ _ _) _) (kx key (mirror (arrOf st) _ _ _) _)
          have t1 := tn (lo + (n + 1))
          have t2 := tn (lo + n)
          rw [Nat.add_zero] at t1 t2
          rw [t1, t2]
          exact KeyOrd.kle_of_klt hlt
    · rw [if_neg hgt]
      have n0 : n = 0 := Nat.le_zero.mp (Nat.le_of_succ_le_succ (Nat.le_of_not_lt hgt))
      rw [n0] at hlt hn2 ⊢
      exact desP_ok C B hm hn2 (Dn.one.snoc (KeyOrd.kle_of_klt hlt)) h
theorem mid_ar {l r : Nat} (h : ¬ l ≥ r) : l ≤ (l + r) / 2 ∧ (l + r) / 2 < r := by omega
theorem Up.adj {xs : Array Keyed} {n : Nat} (h : ∀ i, i + 1 < n → O.kle (kx key xs (lo + i)) (kx key xs (lo + (i + 1)))) : Up O key xs lo n := fun i j hij hj => by
  obtain ⟨t, rfl⟩ := Nat.exists_eq_add_of_le hij
  induction t with
  | zero => exact KeyOrd.kle_refl _
  | succ t ih => exact KeyOrd.kle_trans (ih (Nat.le_add_right _ _) (Nat.lt_of_succ_lt hj)) (h (i + t) hj)
theorem bub_ok {xs : Array Keyed} {l e : Nat} (hs : lo + (l + e) < xs.size) (hu : Up O key xs lo (l + e)) (h1 : ∀ i, i < l → O.kle (kx key xs (lo + i)) (kx key xs (lo + (l + e)))) (h2 : ∀ i, l ≤ i → i < l + e → O.klt (kx key xs (lo + (l + e))) (kx key xs (lo + i))) :
    Up O key (bubble xs (lo + (l + e)) e) lo (l + e + 1) := by
  have hd : e ≤ lo + (l + e) := Nat.le_trans (Nat.le_add_left e l) (Nat.le_add_left _ lo)
  have es : lo + (l + e) - e = lo + l := by rw [← Nat.add_assoc, Nat.add_sub_cancel]
  have f1 : ∀ i, i < l → kx key (bubble xs (lo + (l + e)) e) (lo + i) = kx key xs (lo + i) := fun i hi => by
    rw [kx_bubble hs hd, es, if_neg (fun z => Nat.ne_of_lt hi (Nat.add_left_cancel z)), if_neg (fun z => Nat.lt_asymm hi (Nat.lt_of_add_lt_add_left z.1))]
  have f2 : kx key (bubble xs (lo + (l + e)) e) (lo + l) = kx key xs (lo + (l + e)) := by
    rw [kx_bubble hs hd, es, if_pos rfl]
  have f3 : ∀ i, i < e → kx key (bubble xs (lo + (l + e)) e) (lo + (l + i + 1)) = kx key xs (lo + (l + i)) := fun i hi => by
    have lt : lo + l < lo + (l + i + 1) := Nat.add_lt_add_left (Nat.lt_succ_of_le (Nat.le_add_right l i)) lo
    rw [kx_bubble hs hd, es, if_neg (Nat.ne_of_gt lt), if_pos ⟨lt, Nat.add_le_add_left (Nat.add_le_add_left hi l) lo⟩]
    rfl
  refine Up.adj fun i hi => ?_
  have hi := Nat.lt_of_succ_lt_succ hi
  rcases Nat.lt_trichotomy (i + 1) l with q | q | q
  · rw [f1 i (Nat.lt_of_succ_lt q), f1 _ q]
    exact hu i (i + 1) (Nat.le_succ i) (Nat.lt_of_lt_of_le q (Nat.le_add_right l e))
  · have hil : i < l := by rw [← q]; exact Nat.lt_succ_self i
    rw [f1 i hil, q, f2]
    exact h1 i hil
  · obtain ⟨t, rfl⟩ := Nat.exists_eq_add_of_le (Nat.le_of_lt_succ q)
    have ht := Nat.lt_of_add_lt_add_left hi
    rw [f3 t ht]
    cases t with
    | zero =>
      rw [Nat.add_zero, f2]
      exact KeyOrd.kle_of_klt (h2 l (Nat.le_refl l) hi)
    | succ u =>
      have := f3 u (Nat.lt_of_succ_lt ht)
      rw [show l + (u + 1) = l + u + 1 from rfl, this]
      exact hu (l + u) (l + u + 1) (Nat.le_succ _) hi
theorem ins_ok (C : Cmps prog w A E s O key kd a₀) {st : SortSt} {n ok : Nat} {Q : Bool → SortSt → Prop} (B : SB a₀ kd pn b lo st) (hn : lo + n ≤ a₀.size) (hok : ok ≤ n) (hs : Up O key (arrOf st) lo ok)
    (h : ∀ st', SB a₀ kd pn b lo st' → Up O key (arrOf st') lo n → Q true st') : wpS (model prog w) A E s (binarySort' lo n ok) Q st := by
  rw [binarySort'_eq]
  obtain ⟨P, hP⟩ : ∃ P : Nat → Option Bool × Unit → SortSt → Prop, ∀ x c st', P x c st' ↔ c = (none, ()) ∧ SB a₀ kd pn b lo st' ∧ Up O key (arrOf st') lo x := ⟨_, fun _ _ _ => Iff.rfl⟩
  refine wpS_bind (wpS_mono (wpS_forRange (I := P) (Q := fun c st' => c = (none, ()) ∧ SB a₀ kd pn b lo st' ∧ Up O key (arrOf st') lo n) (fun k c st' _ hkn hI => ?_) (fun c st' hI => ?_) ((hP _ _ _).mpr ⟨rfl, B, ?_⟩)) fun c st' hI => ?_)
  · obtain ⟨rfl, B', hu⟩ := (hP _ _ _).mp hI
    have hk : lo + k < a₀.size := SB.lt (Nat.le_refl 1) hn hkn
    obtain ⟨R, hR⟩ : ∃ R : Nat → Nat → Prop, ∀ l r, R l r ↔ (∀ i, i < l → O.kle (kx key (arrOf st') (lo + i)) (kx key (arrOf st') (lo + k))) ∧ (∀ i, r ≤ i → i < k → O.klt (kx key (arrOf st') (lo + k)) (kx key (arrOf st') (lo + i))) := ⟨_, fun _ _ => Iff.rfl⟩
    refine wpS_bind (wpS_mono (wpS_forRange (I := fun x c st'' => st'' = st' ∧ ∃ l r, c = (none, l, r) ∧ l ≤ r ∧ r ≤ k ∧ r + x ≤ l + k ∧ R l r)
      (Q := fun c st'' => st'' = st' ∧ ∃ l r, c = (none, l, r) ∧ l ≤ k ∧ R l l) (fun x c st'' _ hxk hJ => ?_) (fun c st'' hJ => ?_) ⟨rfl, 0, k, rfl, Nat.zero_le _, Nat.le_refl _, by rw [Nat.zero_add]; exact Nat.le_refl _, (hR _ _).mpr ⟨fun i hi => absurd hi (Nat.not_lt_zero _), fun i h1 h2 => absurd h2 (Nat.not_lt_of_le h1)⟩⟩) fun c st'' hJ => ?_)
    · obtain ⟨rfl, l, r, rfl, hlr, hrk, hm, hr⟩ := hJ
      dsimp only
      by_cases hge : l ≥ r
      · rw [if_pos hge]
        rw [Nat.le_antisymm hge hlr] at hr
        exact wpS_pure ⟨rfl, l, r, rfl, Nat.le_trans hlr hrk, hr⟩
      · rw [if_neg hge]
        obtain ⟨g1, g2⟩ := mid_ar hge
        obtain ⟨h1, h2⟩ := (hR _ _).mp hr
        generalize (l + r) / 2 = m at g1 g2
        refine wpS_bind (ltAt_ok C B' hk (SB.lt (Nat.le_refl 1) hn (Nat.lt_trans (Nat.lt_of_lt_of_le g2 hrk) hkn)) ?_)
        cases less : O.blt (kx key (arrOf st'') (lo + k)) (kx key (arrOf st'') (lo + m)) with
        | true => exact wpS_pure ⟨rfl, l, m, rfl, g1, Nat.le_trans (Nat.le_of_lt g2) hrk, Nat.le_trans (by rw [← Nat.add_assoc]; exact Nat.lt_of_lt_of_le (Nat.add_lt_add_right g2 x) (Nat.le_refl _)) hm, (hR _ _).mpr ⟨h1, fun i q1 q2 => KeyOrd.klt_of_klt_of_kle less (hu _ _ q1 q2)⟩⟩
        | false => exact wpS_pure ⟨rfl, m + 1, r, rfl, g2, hrk, by rw [← Nat.add_assoc, Nat.succ_add]; exact Nat.succ_le_succ (Nat.le_trans hm (Nat.add_le_add_right g1 k)), (hR _ _).mpr ⟨fun i q1 => KeyOrd.kle_trans (hu i m (Nat.le_of_lt_succ q1) (Nat.lt_of_lt_of_le g2 hrk)) less, h2⟩⟩
    · obtain ⟨rfl, l, r, rfl, hlr, hrk, hm, hr⟩ := hJ
      rw [Nat.zero_max] at hm
      rw [Nat.le_antisymm (Nat.le_of_add_le_add_right hm) hlr] at hr
      exact ⟨rfl, l, r, rfl, Nat.le_trans hlr hrk, hr⟩
    · obtain ⟨rfl, l, r, rfl, hlk, hr⟩ := hJ
      obtain ⟨h1, h2⟩ := (hR _ _).mp hr
      obtain ⟨e, rfl⟩ := Nat.exists_eq_add_of_le hlk
      have hks : lo + (l + e) < (arrOf st'').size := by rw [B'.size]; exact hk
      have hd : e ≤ lo + (l + e) := Nat.le_trans (Nat.le_add_left e l) (Nat.le_add_left _ lo)
      show wpS _ _ _ _ (do moveDown' (lo + (l + e)) (lo + l); pure (ForInStep.yield (none, ()))) _ _
      rw [moveDown'_eq, Nat.add_sub_add_left, Nat.add_sub_cancel_left]
      exact wpS_bind (wpS_modify (wpS_pure ((hP _ _ _).mpr ⟨rfl, B'.set (bubble_perm _ _ _) (fun i hi => bubble_low hks hd (Nat.lt_of_lt_of_le hi (by rw [← Nat.add_assoc, Nat.add_sub_cancel]; exact Nat.le_add_right lo l))), bub_ok hks hu h1 h2⟩)))
  · obtain ⟨rfl, B', hu⟩ := (hP _ _ _).mp hI
    exact ⟨rfl, B', fun i j hij hj => hu i j hij (Nat.lt_of_lt_of_le hj (Nat.le_max_right _ _))⟩
  · cases ok with
    | zero => exact Up.one
    | succ ok => rw [Nat.max_eq_left (Nat.le_add_left 1 ok)]; exact hs
  · obtain ⟨rfl, B', hu⟩ := hI
    exact wpS_pure (h st' B' hu)
end
end Mine

namespace Mine

section
variable {prog : Program} {w : World} {A : Around} {E : Value → Shared → Prop} {s : Shared}
noncomputable def gallop' : Bool → Keyed → Array Keyed → Nat → Nat → Nat → StateT SortSt Sem (Option Nat) := sortPriv% PySem.Builtin.gallop
abbrev GS := Option (Option Nat) × Nat × Nat
abbrev Bey := Nat → StateT SortSt Sem (Option Bool)
noncomputable def bey (left : Bool) (key : Keyed) (arr : Array Keyed) (base : Nat) : Bey := fun i => do
  let x ← elem' arr (base + i)
  if left = true then lt' x key
  else do
    let r ← lt' key x
    pure (r.map (fun x => !x))
noncomputable def gFwd (b : Bey) (hint m n : Nat) : StateT SortSt Sem GS := forIn [0:n] ((none, 0, 1) : GS) fun _ c =>
  if c.2.2 ≥ m then pure (ForInStep.done (none, c.2.1, c.2.2)) else do
    let x ← b (hint + c.2.2)
    match x with
    | some more => if (!more) = true then pure (ForInStep.done (none, c.2.1, c.2.2)) else pure (ForInStep.yield (none, c.2.2, 2 * c.2.2 + 1))
    | _ => pure (ForInStep.done (some none, c.2.1, c.2.2))
noncomputable def gBwd (b : Bey) (hint m n : Nat) : StateT SortSt Sem GS := forIn [0:n] ((none, 0, 1) : GS) fun _ c =>
  if c.2.2 ≥ m then pure (ForInStep.done (none, c.2.1, c.2.2)) else do
    let x ← b (hint - c.2.2)
    match x with
    | some found => if found = true then pure (ForInStep.done (none, c.2.1, c.2.2)) else pure (ForInStep.yield (none, c.2.2, 2 * c.2.2 + 1))
    | _ => pure (ForInStep.done (some none, c.2.1, c.2.2))
noncomputable def gBin (b : Bey) (n lo hi : Nat) : StateT SortSt Sem GS := forIn [0:n] ((none, lo, hi) : GS) fun _ c =>
  if c.2.1 ≥ c.2.2 then pure (ForInStep.done (none, c.2.1, c.2.2)) else do
    let x ← b (c.2.1 + (c.2.2 - c.2.1) / 2)
    match x with
    | some more => if more = true then pure (ForInStep.yield (none, c.2.1 + (c.2.2 - c.2.1) / 2 + 1, c.2.2)) else pure (ForInStep.yield (none, c.2.1, c.2.1 + (c.2.2 - c.2.1) / 2))
    | _ => pure (ForInStep.done (some none, c.2.1, c.2.2))
noncomputable def gEnd (b : Bey) (n lo hi : Nat) : StateT SortSt Sem (Option Nat) := do
  let c ← gBin b n lo hi
  match c.1 with
  | some r => pure r
  | none => pure (some c.2.2)
theorem gallop_eq (left : Bool) (key : Keyed) (arr : Array Keyed) (base n hint : Nat) : gallop' left key arr base n hint = (do
    let x ← bey left key arr base hint
    match x with
    | some right =>
      if right = true then do
        let c ← gFwd (bey left key arr base) hint (n - hint) n
        match c.1 with
        | some r => pure r
        | none => gEnd (bey left key arr base) n (hint + c.2.1 + 1) (hint + min c.2.2 (n - hint))
      else do
        let c ← gBwd (bey left key arr base) hint (hint + 1) n
        match c.1 with
        | some r => pure r
        | none => gEnd (bey left key arr base) n (hint + 1 - min c.2.2 (hint + 1)) (hint - c.2.1)
    | _ => pure none) := by kernel_rfl
structure Bs (prog : Program) (w : World) (A : Around) (E : Value → Shared → Prop) (s : Shared) (b : Bey) (st : SortSt) (n : Nat) (B : Nat → Bool) : Prop where
  ask : ∀ i, i < n → ∀ Q : Option Bool → SortSt → Prop, Q (some (B i)) st → wpS (model prog w) A E s (b i) Q st
  mono : ∀ i j, i ≤ j → j < n → B j = true → B i = true
theorem Bs.no {b : Bey} {st : SortSt} {n : Nat} {B : Nat → Bool} (H : Bs prog w A E s b st n B) {i : Nat} (h : B i = false) : ∀ j, i ≤ j → j < n → B j = false := fun j hij hj => by
  cases e : B j with
  | false => rfl
  | true => rw [H.mono i j hij hj e] at h; cases h
variable {b : Bey} {st : SortSt} {n : Nat} {B : Nat → Bool}
theorem mid_low {l r : Nat} (h : ¬ l ≥ r) : l ≤ l + (r - l) / 2 ∧ l + (r - l) / 2 < r := by omega
theorem gEnd_ok (H : Bs prog w A E s b st n B) {lo hi : Nat} {Q : Option Nat → SortSt → Prop} (hlh : lo ≤ hi) (hn : hi ≤ n) (h1 : ∀ i, i < lo → B i = true) (h2 : ∀ i, hi ≤ i → i < n → B i = false)
    (h : ∀ k, k ≤ n → (∀ i, i < k → B i = true) → (∀ i, k ≤ i → i < n → B i = false) → Q (some k) st) : wpS (model prog w) A E s (gEnd b n lo hi) Q st := by
  unfold gEnd gBin
  obtain ⟨R, hR⟩ : ∃ R : Nat → Nat → Prop, ∀ l r, R l r ↔ r ≤ n ∧ (∀ i, i < l → B i = true) ∧ (∀ i, r ≤ i → i < n → B i = false) := ⟨_, fun _ _ => Iff.rfl⟩
  refine wpS_bind (wpS_mono (wpS_forRange (I := fun x c st' => st' = st ∧ c.1 = none ∧ c.2.1 ≤ c.2.2 ∧ c.2.2 + x ≤ c.2.1 + n ∧ R c.2.1 c.2.2) (Q := fun c st' => st' = st ∧ c.1 = none ∧ R c.2.2 c.2.2) (fun x c st' _ hx hI => ?_) (fun c st' hI => ?_) ⟨rfl, rfl, hlh, Nat.le_trans hn (Nat.le_add_left n lo), (hR _ _).mpr ⟨hn, h1, h2⟩⟩) fun c st' hI => ?_)
  · obtain ⟨c1, l, r⟩ := c
    obtain ⟨rfl, hc, hlr, hm, hr⟩ := hI
    dsimp only at hlr hm hr ⊢
    by_cases hge : l ≥ r
    · rw [if_pos hge]
      rw [Nat.le_antisymm hlr hge] at hr
      exact wpS_pure ⟨rfl, rfl, hr⟩
    · rw [if_neg hge]
      obtain ⟨g1, g2⟩ := mid_low hge
      obtain ⟨hrn, a1, a2⟩ := (hR _ _).mp hr
      generalize l + (r - l) / 2 = m at g1 g2
      have hmn := Nat.lt_of_lt_of_le g2 hrn
      refine wpS_bind (H.ask _ hmn _ ?_)
      cases e : B m with
      | true => exact wpS_pure ⟨rfl, rfl, g2, by rw [← Nat.add_assoc, Nat.succ_add]; exact Nat.succ_le_succ (Nat.le_trans hm (Nat.add_le_add_right g1 n)), (hR _ _).mpr ⟨hrn, fun i hi => H.mono i m (Nat.le_of_lt_succ hi) hmn e, a2⟩⟩
      | false => exact wpS_pure ⟨rfl, rfl, g1, Nat.le_trans (by rw [← Nat.add_assoc]; exact Nat.add_lt_add_right g2 x) hm, (hR _ _).mpr ⟨Nat.le_of_lt hmn, a1, H.no e⟩⟩
  · obtain ⟨rfl, hc, hlr, hm, hr⟩ := hI
    rw [Nat.zero_max] at hm
    rw [Nat.le_antisymm hlr (Nat.le_of_add_le_add_right hm)] at hr
    exact ⟨rfl, hc, hr⟩
  · obtain ⟨rfl, hc, hr⟩ := hI
    rw [hc]
    obtain ⟨q1, q2, q3⟩ := (hR _ _).mp hr
    exact wpS_pure (h _ q1 q2 q3)
theorem gallop_ok {left : Bool} {key : Keyed} {arr : Array Keyed} {base hint : Nat} (H : Bs prog w A E s (bey left key arr base) st n B) (hh : hint < n) {Q : Option Nat → SortSt → Prop}
    (h : ∀ k, k ≤ n → (∀ i, i < k → B i = true) → (∀ i, k ≤ i → i < n → B i = false) → Q (some k) st) : wpS (model prog w) A E s (gallop' left key arr base n hint) Q st := by
  rw [gallop_eq]
  refine wpS_bind (H.ask _ hh _ ?_)
  cases e : B hint with
  | true =>
    obtain ⟨N, rfl⟩ := Nat.exists_eq_add_of_le (Nat.le_of_lt hh)
    obtain ⟨R, hR⟩ : ∃ R : Nat → GS → Prop, ∀ x c, R x c ↔ c.1 = none ∧ c.2.1 < c.2.2 ∧ c.2.1 < N ∧ B (hint + c.2.1) = true ∧ (x < c.2.2 ∨ N ≤ c.2.2 ∨ B (hint + c.2.2) = false) := ⟨_, fun _ _ => Iff.rfl⟩
    rw [Nat.add_sub_cancel_left]
    refine wpS_bind (wpS_mono (wpS_forRange (I := fun x c st' => st' = st ∧ R x c) (Q := fun c st' => st' = st ∧ R (hint + N) c) (fun x c st' _ hx hI => ?_) (fun c st' hI => ?_) ⟨rfl, (hR _ _).mpr ⟨rfl, Nat.zero_lt_one, Nat.lt_of_add_lt_add_left hh, e, .inl Nat.zero_lt_one⟩⟩) fun c st' hI => ?_)
    · obtain ⟨c1, l, o⟩ := c
      obtain ⟨rfl, hI⟩ := hI
      obtain ⟨hc, hlo, hln, hb, hd⟩ := (hR _ _).mp hI
      dsimp only at hlo hln hb hd ⊢
      by_cases hge : o ≥ N
      · rw [if_pos hge]; exact wpS_pure ⟨rfl, (hR _ _).mpr ⟨rfl, hlo, hln, hb, .inr (.inl hge)⟩⟩
      · rw [if_neg hge]
        have ho := Nat.lt_of_not_le hge
        refine wpS_bind (H.ask _ (Nat.add_lt_add_left ho hint) _ ?_)
        cases e2 : B (hint + o) with
        | false => exact wpS_pure ⟨rfl, (hR _ _).mpr ⟨rfl, hlo, hln, hb, .inr (.inr e2)⟩⟩
        | true =>
          have hx : x < o := hd.elim id fun z => z.elim (fun z => absurd z hge) fun z => by rw [e2] at z; cases z
          have h2o : o < 2 * o + 1 := by rw [Nat.two_mul]; exact Nat.lt_succ_of_le (Nat.le_add_left o o)
          exact wpS_pure ⟨rfl, (hR _ _).mpr ⟨rfl, h2o, ho, e2, .inl (Nat.lt_of_le_of_lt hx h2o)⟩⟩
    · rw [Nat.zero_max] at hI; exact hI
    · obtain ⟨c1, l, o⟩ := c
      obtain ⟨rfl, hI⟩ := hI
      obtain ⟨hc, hlo, hln, hb, hd⟩ := (hR _ _).mp hI
      dsimp only at hc hlo hln hb hd ⊢
      rw [hc]
      refine gEnd_ok H (Nat.add_le_add_left (Nat.le_min.mpr ⟨hlo, hln⟩) hint) (Nat.add_le_add_left (Nat.min_le_right o N) hint) (fun i hi => H.mono i _ (Nat.le_of_lt_succ hi) (Nat.add_lt_add_left hln hint) hb) (fun i h1 h2 => ?_) h
      rcases Nat.le_total N o with z | z
      · rw [Nat.min_eq_right z] at h1; exact absurd h2 (Nat.not_lt_of_le h1)
      · rw [Nat.min_eq_left z] at h1
        rcases hd with q | q | q
        · exact absurd (Nat.lt_of_lt_of_le q z) (Nat.not_lt_of_le (Nat.le_add_left N hint))
        · rw [Nat.le_antisymm z q] at h1; exact absurd h2 (Nat.not_lt_of_le h1)
        · exact H.no q i h1 h2
  | false =>
    obtain ⟨R, hR⟩ : ∃ R : Nat → GS → Prop, ∀ x c, R x c ↔ c.1 = none ∧ c.2.1 < c.2.2 ∧ c.2.1 ≤ hint ∧ B (hint - c.2.1) = false ∧ (x < c.2.2 ∨ hint < c.2.2 ∨ B (hint - c.2.2) = true) := ⟨_, fun _ _ => Iff.rfl⟩
    refine wpS_bind (wpS_mono (wpS_forRange (I := fun x c st' => st' = st ∧ R x c) (Q := fun c st' => st' = st ∧ R n c) (fun x c st' _ hx hI => ?_) (fun c st' hI => ?_) ⟨rfl, (hR _ _).mpr ⟨rfl, Nat.zero_lt_one, Nat.zero_le _, e, .inl Nat.zero_lt_one⟩⟩) fun c st' hI => ?_)
    · obtain ⟨c1, l, o⟩ := c
      obtain ⟨rfl, hI⟩ := hI
      obtain ⟨hc, hlo, hln, hb, hd⟩ := (hR _ _).mp hI
      dsimp only at hlo hln hb hd ⊢
      by_cases hge : o ≥ hint + 1
      · rw [if_pos hge]; exact wpS_pure ⟨rfl, (hR _ _).mpr ⟨rfl, hlo, hln, hb, .inr (.inl hge)⟩⟩
      · rw [if_neg hge]
        have ho := Nat.le_of_lt_succ (Nat.lt_of_not_le hge)
        refine wpS_bind (H.ask _ (Nat.lt_of_le_of_lt (Nat.sub_le hint o) hh) _ ?_)
        cases e2 : B (hint - o) with
        | true => exact wpS_pure ⟨rfl, (hR _ _).mpr ⟨rfl, hlo, hln, hb, .inr (.inr e2)⟩⟩
        | false =>
          have hx : x < o := hd.elim id fun z => z.elim (fun z => absurd ho (Nat.not_le_of_lt z)) fun z => by rw [e2] at z; cases z
          have h2o : o < 2 * o + 1 := by rw [Nat.two_mul]; exact Nat.lt_succ_of_le (Nat.le_add_left o o)
          exact wpS_pure ⟨rfl, (hR _ _).mpr ⟨rfl, h2o, ho, e2, .inl (Nat.lt_of_le_of_lt hx h2o)⟩⟩
    · rw [Nat.zero_max] at hI; exact hI
    · obtain ⟨c1, l, o⟩ := c
      obtain ⟨rfl, hI⟩ := hI
      obtain ⟨hc, hlo, hln, hb, hd⟩ := (hR _ _).mp hI
      dsimp only at hc hlo hln hb hd ⊢
      rw [hc]
      have hlh : hint + 1 - min o (hint + 1) ≤ hint - l := by
        rw [← Nat.add_sub_add_right hint 1 l]
        exact Nat.sub_le_sub_left (Nat.le_min.mpr ⟨hlo, Nat.succ_le_succ hln⟩) _
      refine gEnd_ok H hlh (Nat.le_trans (Nat.sub_le hint l) (Nat.le_of_lt hh)) (fun i hi => ?_) (H.no hb) h
      rcases Nat.lt_or_ge hint o with z | z
      · rw [Nat.min_eq_right z, Nat.sub_self] at hi; exact absurd hi (Nat.not_lt_zero _)
      · rw [Nat.min_eq_left (Nat.le_succ_of_le z), Nat.succ_sub z] at hi
        have hq : B (hint - o) = true := hd.elim (fun q => absurd (Nat.lt_trans (Nat.lt_of_le_of_lt z hh) q) (Nat.lt_irrefl o)) fun q => q.elim (fun q => absurd q (Nat.not_lt_of_le z)) id
        exact H.mono i _ (Nat.le_of_lt_succ hi) (Nat.lt_of_le_of_lt (Nat.sub_le hint o) hh) hq
theorem elem_ok {xs : Array Keyed} {i : Nat} {x : Keyed} {Q : Keyed → SortSt → Prop} (e : xs[i]? = some x) (h : Q x st) : wpS (model prog w) A E s (elem' xs i) Q st := by
  rw [elem'_eq, e]; exact wpS_pure h
variable {O : KeyOrd} {key : Value → O.α} {kd : SortKind} {a₀ : Array Keyed}
theorem bey_less (C : Cmps prog w A E s O key kd a₀) (hk : kindOf st = kd) {p : Keyed} (hp : p ∈ a₀.toList) {xs : Array Keyed} (hx : ∀ x ∈ xs.toList, x ∈ a₀.toList) {base : Nat} (hn : base + n ≤ xs.size) (hu : Up O key xs base n) :
    Bs prog w A E s (bey true p xs base) st n (fun i => O.blt (kx key xs (base + i)) (key p.1)) where
  ask := fun i hi Q h => by
    have e : xs[base + i]? = some xs[base + i] := getElem?_pos xs (base + i) (by omega)
    refine wpS_bind (elem_ok e ?_)
    rw [if_pos rfl]
    refine C _ p (hx _ (by simp)) hp st Q hk ?_
    have e2 : kx key xs (base + i) = key xs[base + i].1 := by unfold kx; rw [e]
    rw [← e2]; exact h
  mono := fun i j hij hj h => KeyOrd.klt_of_kle_of_klt (hu i j hij hj) h
theorem bey_more (C : Cmps prog w A E s O key kd a₀) (hk : kindOf st = kd) {p : Keyed} (hp : p ∈ a₀.toList) {xs : Array Keyed} (hx : ∀ x ∈ xs.toList, x ∈ a₀.toList) {base : Nat} (hn : base + n ≤ xs.size) (hu : Up O key xs base n) :
    Bs prog w A E s (bey false p xs base) st n (fun i => !O.blt (key p.1) (kx key xs (base + i))) where
  ask := fun i hi Q h => by
    have e : xs[base + i]? = some xs[base + i] := getElem?_pos xs (base + i) (by omega)
    refine wpS_bind (elem_ok e ?_)
    rw [if_neg (by simp)]
    refine wpS_bind (C p _ hp (hx _ (by simp)) st _ hk (wpS_pure ?_))
    have e2 : kx key xs (base + i) = key xs[base + i].1 := by unfold kx; rw [e]
    rw [← e2]; exact h
  mono := fun i j hij hj h => by
    have h1 : O.kle (kx key xs (base + j)) (key p.1) := by simpa [KeyOrd.kle] using h
    have h2 : O.kle (kx key xs (base + i)) (key p.1) := KeyOrd.kle_trans (hu i j hij hj) h1
    simpa [KeyOrd.kle] using h2
end
end Mine

namespace Mine

noncomputable def mergeLo' : Array Keyed → Array Keyed → StateT SortSt Sem (Array Keyed) := sortPriv% PySem.Builtin.mergeLo
noncomputable def setMinGallop' : Nat → StateT SortSt Sem Unit := sortPriv% PySem.Builtin.setMinGallop
abbrev RS := Option (Array Keyed)
abbrev S1 := RS × Array Keyed × Nat × Nat × Nat × Nat
abbrev S2 := RS × Array Keyed × Nat × Nat × Nat × Nat × Nat
abbrev S3 := RS × Array Keyed × Nat × Nat × Nat
noncomputable def dnA (a b out : Array Keyed) (ia ib : Nat) : Array Keyed := out ++ a.extract ia ++ b.extract ib
noncomputable def laA (a b out : Array Keyed) (ia ib : Nat) : Array Keyed := out ++ b.extract ib ++ a.extract ia
noncomputable def loA1 (a b : Array Keyed) (g : Nat) (out : Array Keyed) (ia ib ac bc : Nat) : StateT SortSt Sem (ForInStep S1) := do
  let y ← elem' b ib
  let x ← elem' a ia
  let r ← lt' y x
  match r with
  | some bWins =>
    if bWins = true then do
      let y ← elem' b ib
      if (ib + 1 == b.size) = true then pure (ForInStep.done (some (dnA a b (out.push y) ia (ib + 1)), out.push y, ia, ib + 1, 0, bc + 1))
      else if bc + 1 ≥ g then pure (ForInStep.done (none, out.push y, ia, ib + 1, 0, bc + 1))
      else pure (ForInStep.yield (none, out.push y, ia, ib + 1, 0, bc + 1))
    else do
      let x ← elem' a ia
      if (ia + 1 + 1 == a.size) = true then pure (ForInStep.done (some (laA a b (out.push x) (ia + 1) ib), out.push x, ia + 1, ib, ac + 1, 0))
      else if ac + 1 ≥ g then pure (ForInStep.done (none, out.push x, ia + 1, ib, ac + 1, 0))
      else pure (ForInStep.yield (none, out.push x, ia + 1, ib, ac + 1, 0))
  | _ => pure (ForInStep.done (some (dnA a b out ia ib), out, ia, ib, ac, bc))
noncomputable def loA (a b : Array Keyed) (total g : Nat) (out : Array Keyed) (ia ib : Nat) : StateT SortSt Sem S1 :=
  forIn [0:total] ((none, out, ia, ib, 0, 0) : S1) fun _ c => loA1 a b g c.2.1 c.2.2.1 c.2.2.2.1 c.2.2.2.2.1 c.2.2.2.2.2
noncomputable def loG3 (a b out : Array Keyed) (ia ib g ac bc : Nat) : StateT SortSt Sem (ForInStep S2) := do
  let x ← elem' a ia
  if (ia + 1 + 1 == a.size) = true then pure (ForInStep.done (some (laA a b (out.push x) (ia + 1) ib), out.push x, ia + 1, ib, g, ac, bc))
  else if (decide (ac < 7) && decide (bc < 7)) = true then pure (ForInStep.done (none, out.push x, ia + 1, ib, g, ac, bc))
  else pure (ForInStep.yield (none, out.push x, ia + 1, ib, g, ac, bc))
noncomputable def loG2 (a b out : Array Keyed) (ia ib g ac bc : Nat) : StateT SortSt Sem (ForInStep S2) := do
  let y ← elem' b ib
  if (ib + 1 == b.size) = true then pure (ForInStep.done (some (dnA a b (out.push y) ia (ib + 1)), out.push y, ia, ib + 1, g, ac, bc))
  else do
    let x ← elem' a ia
    let r ← gallop' true x b (ib + 1) (b.size - (ib + 1)) 0
    match r with
    | some k =>
      if k > 0 then
        if (ib + 1 + k == b.size) = true then pure (ForInStep.done (some (dnA a b (out.push y ++ b.extract (ib + 1) (ib + 1 + k)) ia (ib + 1 + k)), out.push y ++ b.extract (ib + 1) (ib + 1 + k), ia, ib + 1 + k, g, ac, k))
        else loG3 a b (out.push y ++ b.extract (ib + 1) (ib + 1 + k)) ia (ib + 1 + k) g ac k
      else loG3 a b (out.push y) ia (ib + 1) g ac k
    | _ => pure (ForInStep.done (some (dnA a b (out.push y) ia (ib + 1)), out.push y, ia, ib + 1, g, ac, bc))
noncomputable def loG1 (a b out : Array Keyed) (ia ib g ac bc : Nat) : StateT SortSt Sem (ForInStep S2) := do
  setMinGallop' g
  let y ← elem' b ib
  let r ← gallop' false y a ia (a.size - ia) 0
  match r with
  | some k =>
    if k > 0 then
      if (ia + k + 1 == a.size) = true then pure (ForInStep.done (some (laA a b (out ++ a.extract ia (ia + k)) (ia + k) ib), out ++ a.extract ia (ia + k), ia + k, ib, g, k, bc))
      else if (ia + k == a.size) = true then pure (ForInStep.done (some (dnA a b (out ++ a.extract ia (ia + k)) (ia + k) ib), out ++ a.extract ia (ia + k), ia + k, ib, g, k, bc))
      else loG2 a b (out ++ a.extract ia (ia + k)) (ia + k) ib g k bc
    else loG2 a b out ia ib g k bc
  | _ => pure (ForInStep.done (some (dnA a b out ia ib), out, ia, ib, g, ac, bc))
noncomputable def loG (a b : Array Keyed) (total : Nat) (out : Array Keyed) (ia ib g ac bc : Nat) : StateT SortSt Sem S2 :=
  forIn [0:total] ((none, out, ia, ib, g, ac, bc) : S2) fun _ c =>
    if c.2.2.2.2.1 > 1 then loG1 a b c.2.1 c.2.2.1 c.2.2.2.1 (c.2.2.2.2.1 - 1) c.2.2.2.2.2.1 c.2.2.2.2.2.2
    else loG1 a b c.2.1 c.2.2.1 c.2.2.2.1 c.2.2.2.2.1 c.2.2.2.2.2.1 c.2.2.2.2.2.2
noncomputable def loO1 (a b : Array Keyed) (total : Nat) (out : Array Keyed) (ia ib g : Nat) : StateT SortSt Sem (ForInStep S3) := do
  let c ← loA a b total g out ia ib
  match c.1 with
  | some r => pure (ForInStep.done (some r, c.2.1, c.2.2.1, c.2.2.2.1, g))
  | none => do
    liftM (rule "list.sort.gallop")
    let d ← loG a b total c.2.1 c.2.2.1 c.2.2.2.1 (g + 1) c.2.2.2.2.1 c.2.2.2.2.2
    match d.1 with
    | some r => pure (ForInStep.done (some r, d.2.1, d.2.2.1, d.2.2.2.1, d.2.2.2.2.1))
    | none => do
      setMinGallop' (d.2.2.2.2.1 + 1)
      pure (ForInStep.yield (none, d.2.1, d.2.2.1, d.2.2.2.1, d.2.2.2.2.1 + 1))
noncomputable def loO (a b : Array Keyed) (total : Nat) (out : Array Keyed) (ia ib g : Nat) : StateT SortSt Sem S3 :=
  forIn [0:total] ((none, out, ia, ib, g) : S3) fun _ c => loO1 a b total c.2.1 c.2.2.1 c.2.2.2.1 c.2.2.2.2
theorem mlo_eq (a b : Array Keyed) : mergeLo' a b = (do
    liftM (rule "list.sort.merge-lo")
    let y ← elem' b 0
    if (1 == b.size) = true then pure (dnA a b #[y] 0 1)
    else if (0 + 1 == a.size) = true then pure (laA a b #[y] 0 1)
    else do
      let st ← get
      let c ← loO a b (a.size + b.size) #[y] 0 1 (gallopOf st)
      match c.1 with
      | some r => pure r
      | none => liftM (unsupported "internal:list.sort.merge-bound")) := by kernel_rfl
section
variable {O : KeyOrd} {key : Value → O.α}
noncomputable def leK (O : KeyOrd) (key : Value → O.α) (x y : Keyed) : Prop := O.kle (key x.1) (key y.1)
noncomputable def Mi (O : KeyOrd) (key : Value → O.α) (L o A B : List Keyed) : Prop := (o ++ A ++ B).Perm L ∧ (o ++ A).Pairwise (leK O key) ∧ (o ++ B).Pairwise (leK O key)
noncomputable def Rs (O : KeyOrd) (key : Value → O.α) (L o : List Keyed) : Prop := o.Perm L ∧ o.Pairwise (leK O key)
variable {L o A B K : List Keyed}
theorem Mi.swap (h : Mi O key L o A B) : Mi O key L o B A := ⟨((List.append_assoc ..).symm ▸ (List.Perm.append_left o List.perm_append_comm) : (o ++ B ++ A).Perm (o ++ (A ++ B))).trans ((List.append_assoc ..) ▸ h.1), h.2.2, h.2.1⟩
theorem Mi.take (h : Mi O key L o (K ++ A) B) (hk : ∀ x ∈ K, ∀ z ∈ B, leK O key x z) : Mi O key L (o ++ K) A B := by
  obtain ⟨h1, h2, h3⟩ := h
  rw [← List.append_assoc] at h1 h2
  obtain ⟨q1, q2, q3⟩ := List.pairwise_append.mp h3
  refine ⟨h1, h2, List.pairwise_append.mpr ⟨(List.pairwise_append.mp h2).1, q2, fun x hx z hz => ?_⟩⟩
  rcases List.mem_append.mp hx with hx | hx
  · exact q3 x hx z hz
  · exact hk x hx z hz
theorem Mi.out (h : Mi O key L o A []) : Rs O key L (o ++ A) := ⟨by have := h.1; rwa [List.append_nil] at this, h.2.1⟩
noncomputable def Ja (O : KeyOrd) (key : Value → O.α) (L : List Keyed) (a b out : Array Keyed) (ia ib : Nat) : Prop := Mi O key L out.toList (a.toList.drop ia) (b.toList.drop ib)
variable {a b out out' : Array Keyed} {ia ib k p : Nat}
theorem Ja.swap (h : Ja O key L a b out ia ib) : Ja O key L b a out ib ia := Mi.swap h
theorem kx_at {xs : Array Keyed} {i : Nat} (h : i < xs.size) : kx key xs i = key xs[i].1 := by
  unfold kx; rw [getElem?_pos xs i h]
theorem drop_one {xs : Array Keyed} (h : p < xs.size) : xs.toList.drop p = xs[p] :: xs.toList.drop (p + 1) := by
  rw [List.drop_eq_getElem_cons (by rwa [Array.length_toList])]; rfl
theorem push_take {xs out : Array Keyed} (h : p < xs.size) : (out.push xs[p]).toList = out.toList ++ (xs.toList.drop p).take 1 := by
  rw [drop_one h, Array.toList_push]; rfl
theorem ext_take {xs out : Array Keyed} {i k : Nat} : (out ++ xs.extract i (i + k)).toList = out.toList ++ (xs.toList.drop i).take k := by
  rw [Array.toList_append, Array.toList_extract, List.extract_eq_take_drop, Nat.add_sub_cancel_left]
theorem fst_one {P : O.α → Prop} {xs : Array Keyed} (hp : p < xs.size) (h : P (kx key xs p)) : ∀ x ∈ (xs.toList.drop p).take 1, P (key x.1) := fun x hx => by
  rw [drop_one hp] at hx
  rw [List.mem_singleton.mp hx, ← kx_at (key := key) hp]; exact h
theorem fst_all {P : O.α → Prop} {xs : Array Keyed} {n : Nat} (h : ∀ i, i < n → P (kx key xs (p + i))) : ∀ x ∈ (xs.toList.drop p).take n, P (key x.1) := fun x hx => by
  obtain ⟨i, hi, rfl⟩ := List.mem_take_iff_getElem.mp hx
  rw [List.length_drop, Array.length_toList, Nat.lt_min] at hi
  have h2 := Nat.add_lt_of_lt_sub' hi.2
  rw [List.getElem_drop, Array.getElem_toList, ← kx_at (key := key) h2]
  exact h i hi.1
theorem low_le {xs : Array Keyed} (hp : p < xs.size) (h : (xs.toList.drop p).Pairwise (leK O key)) : ∀ z ∈ xs.toList.drop p, O.kle (kx key xs p) (key z.1) := fun z hz => by
  rw [drop_one hp] at h hz
  rw [kx_at hp]
  rcases List.mem_cons.mp hz with rfl | hz
  · exact KeyOrd.kle_refl _
  · exact (List.pairwise_cons.mp h).1 z hz
theorem Ja.move (h : Ja O key L a b out ia ib) (hb : ib < b.size) (hle : ∀ x ∈ (a.toList.drop ia).take k, O.kle (key x.1) (kx key b ib)) (e : out'.toList = out.toList ++ (a.toList.drop ia).take k) : Ja O key L a b out' (ia + k) ib := by
  have hf := low_le hb (List.pairwise_append.mp h.2.2).2.1
  unfold Ja at *
  rw [← List.take_append_drop k (a.toList.drop ia), List.drop_drop] at h
  rw [e]
  exact h.take fun x hx z hz => KeyOrd.kle_trans (hle x hx) (hf z hz)
theorem drop_size (xs : Array Keyed) : xs.toList.drop xs.size = [] := List.drop_eq_nil_of_le (Nat.le_of_eq Array.length_toList)
theorem ext_list (xs : Array Keyed) (i : Nat) : (xs.extract i).toList = xs.toList.drop i := by
  rw [Array.toList_extract, List.extract_eq_take_drop]; exact List.take_of_length_le (by simp)
theorem Ja.dn (h : Ja O key L a b out ia ib) (hb : ib = b.size) : Rs O key L (dnA a b out ia ib).toList := by
  unfold Ja at h
  rw [hb, drop_size] at h
  unfold dnA
  rw [hb, Array.toList_append, Array.toList_append, ext_list, ext_list, drop_size, List.append_nil]
  exact h.out
theorem Ja.dn' (h : Ja O key L a b out ia ib) (ha : ia = a.size) : Rs O key L (dnA a b out ia ib).toList := by
  unfold Ja at h
  rw [ha, drop_size] at h
  unfold dnA
  rw [ha, Array.toList_append, Array.toList_append, ext_list, ext_list, drop_size, List.append_nil]
  exact h.swap.out
theorem Ja.la {la : Nat} (h : Ja O key L a b out ia ib) (hs : a.size = la + 1) (ha : ia + 1 = a.size) (hl : ∀ i, i < b.size → O.kle (kx key b i) (kx key a la)) : Rs O key L (laA a b out ia ib).toList := by
  obtain rfl : ia = la := Nat.succ.inj (ha.trans hs)
  have hall : (b.toList.drop ib).take b.size = b.toList.drop ib := List.take_of_length_le (by rw [List.length_drop, Array.length_toList]; exact Nat.sub_le _ _)
  have h2 := h.swap.move (out' := out ++ b.extract ib) (k := b.size) (Nat.lt_of_lt_of_eq (Nat.lt_succ_self ia) ha) (fun x hx => by
    obtain ⟨i, hi, rfl⟩ := List.mem_iff_getElem.mp (List.mem_of_mem_drop (List.mem_of_mem_take hx))
    rw [Array.length_toList] at hi
    rw [Array.getElem_toList, ← kx_at (key := key) hi]
    exact hl i hi) (by rw [Array.toList_append, ext_list, hall])
  have h3 := h2.swap
  unfold Ja at h3
  rw [List.drop_eq_nil_of_le (Nat.le_trans (Nat.le_of_eq Array.length_toList) (Nat.le_add_left _ _))] at h3
  have := h3.out
  unfold laA
  rwa [Array.toList_append, ext_list]
end

section
variable {prog : Program} {w : World} {A : Around} {E : Value → Shared → Prop} {s : Shared} {O : KeyOrd} {key : Value → O.α} {kd : SortKind} {a₀ a b : Array Keyed} {L : List Keyed}
structure Mg (prog : Program) (w : World) (A : Around) (E : Value → Shared → Prop) (s : Shared) (O : KeyOrd) (key : Value → O.α) (kd : SortKind) (a₀ a b : Array Keyed) : Prop where
  C : Cmps prog w A E s O key kd a₀
  ma : ∀ x ∈ a.toList, x ∈ a₀.toList
  mb : ∀ x ∈ b.toList, x ∈ a₀.toList
  ua : Up O key a 0 a.size
  ub : Up O key b 0 b.size
theorem Up.from {xs : Array Keyed} {m : Nat} (h : Up O key xs 0 m) {i n : Nat} (hn : i + n ≤ m) : Up O key xs i n := fun p q hpq hq => by
  have := h (i + p) (i + q) (Nat.add_le_add_left hpq i) (Nat.lt_of_lt_of_le (Nat.add_lt_add_left hq i) hn)
  rwa [Nat.zero_add, Nat.zero_add] at this
noncomputable def Ls (O : KeyOrd) (key : Value → O.α) (L : List Keyed) (a b : Array Keyed) (m : Nat) (out : Array Keyed) (ia ib : Nat) : Prop := ia + 1 < a.size ∧ ib < b.size ∧ m ≤ ia + ib ∧ Ja O key L a b out ia ib
noncomputable def Pm (O : KeyOrd) (key : Value → O.α) (L : List Keyed) (a b : Array Keyed) (m : Nat) (r : RS) (out : Array Keyed) (ia ib : Nat) : Prop :=
  (∃ o, r = some o ∧ Rs O key L o.toList) ∨ (r = none ∧ Ls O key L a b m out ia ib)
noncomputable def St1 (O : KeyOrd) (key : Value → O.α) (L : List Keyed) (a b : Array Keyed) (m : Nat) : ForInStep S1 → Prop
  | .done c => Pm O key L a b m c.1 c.2.1 c.2.2.1 c.2.2.2.1
  | .yield c => c.1 = none ∧ Pm O key L a b m c.1 c.2.1 c.2.2.1 c.2.2.2.1
noncomputable def St2 (O : KeyOrd) (key : Value → O.α) (L : List Keyed) (a b : Array Keyed) (m : Nat) : ForInStep S2 → Prop
  | .done c => Pm O key L a b m c.1 c.2.1 c.2.2.1 c.2.2.2.1
  | .yield c => c.1 = none ∧ Pm O key L a b m c.1 c.2.1 c.2.2.1 c.2.2.2.1
structure La (O : KeyOrd) (key : Value → O.α) (a b : Array Keyed) (la : Nat) : Prop where
  sz : a.size = la + 1
  le : ∀ i, i < b.size → O.kle (kx key b i) (kx key a la)
variable {out : Array Keyed} {ia ib g ac bc m la : Nat} {st : SortSt}
theorem beq_num {i j : Nat} (h : (i == j) = true) : i = j := eq_of_beq h
theorem nbeq {i j : Nat} (h : ¬ (i == j) = true) : i ≠ j := fun z => h (beq_iff_eq.mpr z)
theorem nb_t {c : Bool} (h : (!c) = true) : c = false := by cases c with | false => rfl | true => cases h
theorem nb_f {c : Bool} (h : (!c) = false) : c = true := by cases c with | true => rfl | false => cases h
theorem loA1_ok (G : Mg prog w A E s O key kd a₀ a b) (H : La O key a b la) (hk : kindOf st = kd) (J : Ls O key L a b m out ia ib)
    {Q : ForInStep S1 → SortSt → Prop} (h : ∀ r, St1 O key L a b m r → Q r st) : wpS (model prog w) A E s (loA1 a b g out ia ib ac bc) Q st := by
  unfold loA1
  obtain ⟨h1, h2, hm, J⟩ := J
  have h0 := Nat.lt_of_succ_lt h1
  have ea : a[ia]? = some a[ia] := getElem?_pos a ia h0
  have eb : b[ib]? = some b[ib] := getElem?_pos b ib h2
  refine wpS_bind (elem_ok eb (wpS_bind (elem_ok ea (wpS_bind (G.C _ _ (G.mb _ (by simp)) (G.ma _ (by simp)) _ _ hk ?_)))))
  rw [← kx_at (key := key) h0, ← kx_at (key := key) h2]
  cases e : O.blt (kx key b ib) (kx key a ia) with
  | true =>
    refine wpS_bind (elem_ok eb ?_)
    have J2 := J.swap.move (out' := out.push b[ib]) (k := 1) h0 (fst_one (P := fun v => O.kle v (kx key a ia)) h2 (KeyOrd.kle_of_klt e)) (push_take h2)
    by_cases hb : (ib + 1 == b.size) = true
    · rw [if_pos hb]
      exact wpS_pure (h _ (.inl ⟨_, rfl, J2.swap.dn (beq_num hb)⟩))
    · rw [if_neg hb]
      have pm : Pm O key L a b m none (out.push b[ib]) ia (ib + 1) := .inr ⟨rfl, h1, Nat.lt_of_le_of_ne h2 (nbeq hb), Nat.le_succ_of_le hm, J2.swap⟩
      split
      · exact wpS_pure (h _ pm)
      · exact wpS_pure (h _ ⟨rfl, pm⟩)
  | false =>
    refine wpS_bind (elem_ok ea ?_)
    have J2 := J.move (out' := out.push a[ia]) (k := 1) h2 (fst_one (P := fun v => O.kle v (kx key b ib)) h0 e) (push_take h0)
    by_cases hb : (ia + 1 + 1 == a.size) = true
    · rw [if_pos hb]
      exact wpS_pure (h _ (.inl ⟨_, rfl, J2.la H.sz (beq_num hb) H.le⟩))
    · rw [if_neg hb]
      have pm : Pm O key L a b m none (out.push a[ia]) (ia + 1) ib := .inr ⟨rfl, Nat.lt_of_le_of_ne h1 (nbeq hb), h2, Nat.le_trans hm (Nat.add_le_add_right (Nat.le_succ ia) ib), J2⟩
      split
      · exact wpS_pure (h _ pm)
      · exact wpS_pure (h _ ⟨rfl, pm⟩)
theorem loA_ok (G : Mg prog w A E s O key kd a₀ a b) (H : La O key a b la) (hk : kindOf st = kd) (J : Ls O key L a b m out ia ib) {total : Nat}
    {Q : S1 → SortSt → Prop} (h : ∀ c : S1, Pm O key L a b m c.1 c.2.1 c.2.2.1 c.2.2.2.1 → Q c st) : wpS (model prog w) A E s (loA a b total g out ia ib) Q st := by
  unfold loA
  refine wpS_mono (wpS_forRange (I := fun _ c st' => st' = st ∧ c.1 = none ∧ Pm O key L a b m c.1 c.2.1 c.2.2.1 c.2.2.2.1) (Q := fun c st' => st' = st ∧ Pm O key L a b m c.1 c.2.1 c.2.2.1 c.2.2.2.1) (fun x c st' _ _ hI => ?_) (fun c st' hI => ⟨hI.1, hI.2.2⟩) ⟨rfl, rfl, .inr ⟨rfl, J⟩⟩) fun c st' hI => by obtain ⟨rfl, hI⟩ := hI; exact h c hI
  obtain ⟨rfl, hn, hP⟩ := hI
  rcases hP with ⟨o, e, _⟩ | ⟨_, J'⟩
  · rw [hn] at e; cases e
  · refine loA1_ok G H hk J' fun r hr => ?_
    cases r with
    | done c' => exact ⟨rfl, hr⟩
    | yield c' => exact ⟨rfl, hr.1, hr.2⟩
noncomputable def Sm (st st' : SortSt) : Prop := kindOf st' = kindOf st ∧ arrOf st' = arrOf st ∧ pendingOf st' = pendingOf st ∧ failedOf st' = failedOf st
theorem Sm.rfl' : Sm st st := ⟨rfl, rfl, rfl, rfl⟩
theorem Sm.trans {x y z : SortSt} (h : Sm x y) (k : Sm y z) : Sm x z := ⟨k.1.trans h.1, k.2.1.trans h.2.1, k.2.2.1.trans h.2.2.1, k.2.2.2.trans h.2.2.2⟩
theorem setMG_ok {Q : Unit → SortSt → Prop} (h : ∀ st', Sm st st' → Q () st') : wpS (model prog w) A E s (setMinGallop' g) Q st := by
  have e : setMinGallop' g = modify fun st => SortSt.mk' (kindOf st) (arrOf st) (pendingOf st) g (failedOf st) := rfl
  rw [e]
  exact wpS_modify (h _ ⟨rfl, rfl, rfl, rfl⟩)
theorem loG3_ok (H : La O key a b la) (J : Ls O key L a b m out ia ib) (hle : O.kle (kx key a ia) (kx key b ib))
    {Q : ForInStep S2 → SortSt → Prop} (h : ∀ r, St2 O key L a b m r → Q r st) : wpS (model prog w) A E s (loG3 a b out ia ib g ac bc) Q st := by
  unfold loG3
  obtain ⟨h1, h2, hm, J⟩ := J
  have h0 := Nat.lt_of_succ_lt h1
  refine wpS_bind (elem_ok (getElem?_pos a ia h0) ?_)
  have J2 := J.move (out' := out.push a[ia]) (k := 1) h2 (fst_one (P := fun v => O.kle v (kx key b ib)) h0 hle) (push_take h0)
  by_cases hb : (ia + 1 + 1 == a.size) = true
  · rw [if_pos hb]
    exact wpS_pure (h _ (.inl ⟨_, rfl, J2.la H.sz (beq_num hb) H.le⟩))
  · rw [if_neg hb]
    have pm : Pm O key L a b m none (out.push a[ia]) (ia + 1) ib := .inr ⟨rfl, Nat.lt_of_le_of_ne h1 (nbeq hb), h2, Nat.le_trans hm (Nat.add_le_add_right (Nat.le_succ ia) ib), J2⟩
    split
    · exact wpS_pure (h _ pm)
    · exact wpS_pure (h _ ⟨rfl, pm⟩)
theorem loG2_ok (G : Mg prog w A E s O key kd a₀ a b) (H : La O key a b la) (hk : kindOf st = kd) (J : Ls O key L a b m out ia ib) (hle : O.klt (kx key b ib) (kx key a ia))
    {Q : ForInStep S2 → SortSt → Prop} (h : ∀ r, St2 O key L a b (m + 1) r → Q r st) : wpS (model prog w) A E s (loG2 a b out ia ib g ac bc) Q st := by
  unfold loG2
  obtain ⟨h1, h2, hm, J⟩ := J
  have h0 := Nat.lt_of_succ_lt h1
  refine wpS_bind (elem_ok (getElem?_pos b ib h2) ?_)
  have J2 := J.swap.move (out' := out.push b[ib]) (k := 1) h0 (fst_one (P := fun v => O.kle v (kx key a ia)) h2 (KeyOrd.kle_of_klt hle)) (push_take h2)
  by_cases hb : (ib + 1 == b.size) = true
  · rw [if_pos hb]
    exact wpS_pure (h _ (.inl ⟨_, rfl, J2.swap.dn (beq_num hb)⟩))
  · rw [if_neg hb]
    have h3 := Nat.lt_of_le_of_ne h2 (nbeq hb)
    obtain ⟨t, ht⟩ := Nat.exists_eq_add_of_le (Nat.le_of_lt h3)
    rw [show b.size - (ib + 1) = t by rw [ht, Nat.add_sub_cancel_left]]
    have htp : 0 < t := Nat.lt_of_add_lt_add_left (n := ib + 1) (by rw [← ht]; exact h3)
    refine wpS_bind (elem_ok (getElem?_pos a ia h0) (wpS_bind (gallop_ok (bey_less G.C hk (G.ma _ (by simp)) G.mb (Nat.le_of_eq ht.symm) (G.ub.from (Nat.le_of_eq ht.symm))) htp fun k hkn k1 k2 => ?_)))
    rw [← kx_at (key := key) h0] at k1 k2
    have J3 := J2.move (out' := out.push b[ib] ++ b.extract (ib + 1) (ib + 1 + k)) (k := k) h0 (fst_all (P := fun v => O.kle v (kx key a ia)) fun i hi => KeyOrd.kle_of_klt (k1 i hi)) ext_take
    have hm2 : m + 1 ≤ ia + (ib + 1) := Nat.succ_le_succ hm
    dsimp only
    by_cases hk0 : k > 0
    · rw [if_pos hk0]
      by_cases hb2 : (ib + 1 + k == b.size) = true
      · rw [if_pos hb2]
        exact wpS_pure (h _ (.inl ⟨_, rfl, J3.swap.dn (beq_num hb2)⟩))
      · rw [if_neg hb2]
        have hlt : ib + 1 + k < b.size := Nat.lt_of_le_of_ne (by rw [ht]; exact Nat.add_le_add_left hkn _) (nbeq hb2)
        exact loG3_ok H ⟨h1, hlt, Nat.le_trans hm2 (Nat.add_le_add_left (Nat.le_add_right _ k) ia), J3.swap⟩ (k2 k (Nat.le_refl _) (Nat.lt_of_add_lt_add_left (n := ib + 1) (by rw [← ht]; exact hlt))) h
    · rw [if_neg hk0]
      have k0 : k = 0 := Nat.le_zero.mp (Nat.le_of_not_lt hk0)
      exact loG3_ok H ⟨h1, h3, hm2, J2.swap⟩ (k2 0 (Nat.le_of_eq k0) htp) h
theorem loG1_ok (G : Mg prog w A E s O key kd a₀ a b) (H : La O key a b la) (hk : kindOf st = kd) (J : Ls O key L a b m out ia ib)
    {Q : ForInStep S2 → SortSt → Prop} (h : ∀ r st', Sm st st' → St2 O key L a b (m + 1) r → Q r st') : wpS (model prog w) A E s (loG1 a b out ia ib g ac bc) Q st := by
  unfold loG1
  obtain ⟨h1, h2, hm, J⟩ := J
  have h0 := Nat.lt_of_succ_lt h1
  obtain ⟨t, ht⟩ := Nat.exists_eq_add_of_le (Nat.le_of_lt h0)
  rw [show a.size - ia = t by rw [ht, Nat.add_sub_cancel_left]]
  have htp : 0 < t := Nat.lt_of_add_lt_add_left (n := ia) (by rw [← ht]; exact h0)
  refine wpS_bind (setMG_ok fun st' hs => wpS_bind (elem_ok (getElem?_pos b ib h2) (wpS_bind (gallop_ok (bey_more G.C (hs.1.trans hk) (G.mb _ (by simp)) G.ma (Nat.le_of_eq ht.symm) (G.ua.from (Nat.le_of_eq ht.symm))) htp fun k hkn k1 k2 => ?_))))
  rw [← kx_at (key := key) h2] at k1 k2
  have J3 := J.move (out' := out ++ a.extract ia (ia + k)) (k := k) h2 (fst_all (P := fun v => O.kle v (kx key b ib)) fun i hi => nb_t (k1 i hi)) ext_take
  dsimp only
  by_cases hk0 : k > 0
  · rw [if_pos hk0]
    by_cases hb : (ia + k + 1 == a.size) = true
    · rw [if_pos hb]
      exact wpS_pure (h _ _ hs (.inl ⟨_, rfl, J3.la H.sz (beq_num hb) H.le⟩))
    · rw [if_neg hb]
      by_cases hb2 : (ia + k == a.size) = true
      · rw [if_pos hb2]
        exact wpS_pure (h _ _ hs (.inl ⟨_, rfl, J3.dn' (beq_num hb2)⟩))
      · rw [if_neg hb2]
        have hlt : ia + k < a.size := Nat.lt_of_le_of_ne (by rw [ht]; exact Nat.add_le_add_left hkn _) (nbeq hb2)
        exact loG2_ok G H (hs.1.trans hk) ⟨Nat.lt_of_le_of_ne hlt (nbeq hb), h2, Nat.le_trans hm (Nat.add_le_add_right (Nat.le_add_right ia k) ib), J3⟩ (nb_f (k2 k (Nat.le_refl _) (Nat.lt_of_add_lt_add_left (n := ia) (by rw [← ht]; exact hlt)))) fun r hr => h r _ hs hr
  · rw [if_neg hk0]
    have k0 : k = 0 := Nat.le_zero.mp (Nat.le_of_not_lt hk0)
    exact loG2_ok G H (hs.1.trans hk) ⟨h1, h2, hm, J⟩ (nb_f (k2 0 (Nat.le_of_eq k0) htp)) fun r hr => h r _ hs hr
theorem Pm.le {m2 : Nat} {r : RS} (h : Pm O key L a b m r out ia ib) (hm : m2 ≤ m) : Pm O key L a b m2 r out ia ib := h.imp id fun ⟨q1, q2, q3, q4, q5⟩ => ⟨q1, q2, q3, Nat.le_trans hm q4, q5⟩
theorem loG_ok (G : Mg prog w A E s O key kd a₀ a b) (H : La O key a b la) (hk : kindOf st = kd) (J : Ls O key L a b m out ia ib) {total : Nat} (ht : 1 ≤ total)
    {Q : S2 → SortSt → Prop} (h : ∀ (c : S2) st', Sm st st' → Pm O key L a b (m + 1) c.1 c.2.1 c.2.2.1 c.2.2.2.1 → Q c st') : wpS (model prog w) A E s (loG a b total out ia ib g ac bc) Q st := by
  unfold loG
  refine wpS_mono (wpS_forRange (I := fun x c st' => Sm st st' ∧ c.1 = none ∧ ((x = 0 ∧ Pm O key L a b m c.1 c.2.1 c.2.2.1 c.2.2.2.1) ∨ Pm O key L a b (m + 1) c.1 c.2.1 c.2.2.1 c.2.2.2.1)) (Q := fun c st' => Sm st st' ∧ Pm O key L a b (m + 1) c.1 c.2.1 c.2.2.1 c.2.2.2.1) (fun x c st' _ _ hI => ?_) (fun c st' hI => ⟨hI.1, hI.2.2.resolve_left fun z => absurd z.1 (Nat.ne_of_gt (Nat.lt_of_lt_of_le ht (Nat.le_max_right 0 total)))⟩) ⟨Sm.rfl', rfl, .inl ⟨rfl, .inr ⟨rfl, J⟩⟩⟩) fun c st' hI => h c st' hI.1 hI.2
  obtain ⟨hs, hn, hP⟩ := hI
  have hP : Pm O key L a b m c.1 c.2.1 c.2.2.1 c.2.2.2.1 := hP.elim (·.2) fun z => z.le (Nat.le_succ m)
  rcases hP with ⟨o, e, _⟩ | ⟨_, J'⟩
  · rw [hn] at e; cases e
  · split
    all_goals
      refine loG1_ok G H (hs.1.trans hk) J' fun r st2 hs2 hr => ?_
      cases r with
      | done c' => exact ⟨hs.trans hs2, hr⟩
      | yield c' => exact ⟨hs.trans hs2, hr.1, .inr hr.2⟩
noncomputable def St3 (O : KeyOrd) (key : Value → O.α) (L : List Keyed) (a b : Array Keyed) (m : Nat) : ForInStep S3 → Prop
  | .done c => ∃ o, c.1 = some o ∧ Rs O key L o.toList
  | .yield c => c.1 = none ∧ Pm O key L a b m c.1 c.2.1 c.2.2.1 c.2.2.2.1
theorem loO1_ok (G : Mg prog w A E s O key kd a₀ a b) (H : La O key a b la) (hk : kindOf st = kd) (J : Ls O key L a b m out ia ib) {total : Nat} (ht : 1 ≤ total)
    {Q : ForInStep S3 → SortSt → Prop} (h : ∀ r st', Sm st st' → St3 O key L a b (m + 1) r → Q r st') : wpS (model prog w) A E s (loO1 a b total out ia ib g) Q st := by
  unfold loO1
  refine wpS_bind (loA_ok G H hk J fun c hc => ?_)
  obtain ⟨r, o1, i1, j1, x1, y1⟩ := c
  rcases hc with ⟨o, e, hr⟩ | ⟨e, J2⟩
  · obtain rfl : r = some o := e
    exact wpS_pure (h _ _ Sm.rfl' ⟨o, rfl, hr⟩)
  · obtain rfl : r = none := e
    refine wpS_bind (wpS_lift (wpAny_rule ⟨rfl, ?_⟩))
    refine wpS_bind (loG_ok G H hk J2 ht fun d st' hs hd => ?_)
    obtain ⟨r, o2, i2, j2, g2, x2, y2⟩ := d
    rcases hd with ⟨o, e, hr⟩ | ⟨e, hr⟩
    · obtain rfl : r = some o := e
      exact wpS_pure (h _ _ hs ⟨o, rfl, hr⟩)
    · obtain rfl : r = none := e
      exact wpS_bind (setMG_ok fun st2 hs2 => wpS_pure (h _ _ (hs.trans hs2) ⟨rfl, .inr ⟨rfl, hr⟩⟩))
theorem Up.pairs {xs : Array Keyed} (h : Up O key xs 0 xs.size) : xs.toList.Pairwise (leK O key) := by
  rw [List.pairwise_iff_getElem]
  intro i j hi hj hij
  rw [Array.length_toList] at hi hj
  have q := h i j (Nat.le_of_lt hij) hj
  rw [Nat.zero_add, Nat.zero_add, kx_at (key := key) hi, kx_at (key := key) hj] at q
  exact q
theorem Ja.start (ha : Up O key a 0 a.size) (hb : Up O key b 0 b.size) : Ja O key (a.toList ++ b.toList) a b #[] 0 0 :=
  ⟨List.Perm.refl _, ha.pairs, hb.pairs⟩
theorem mlo_ok (G : Mg prog w A E s O key kd a₀ a b) (H : La O key a b la) (hk : kindOf st = kd) (hb : 0 < b.size) (hf : O.kle (kx key b 0) (kx key a 0))
    {Q : Array Keyed → SortSt → Prop} (h : ∀ o st', Sm st st' → Rs O key (a.toList ++ b.toList) o.toList → Q o st') : wpS (model prog w) A E s (mergeLo' a b) Q st := by
  rw [mlo_eq]
  have ha : 0 < a.size := by rw [H.sz]; exact Nat.succ_pos la
  refine wpS_bind (wpS_lift (wpAny_rule ⟨rfl, ?_⟩))
  refine wpS_bind (elem_ok (getElem?_pos b 0 hb) ?_)
  have J := ((Ja.start G.ua G.ub).swap.move (out' := #[b[0]]) (k := 1) ha (fst_one (P := fun v => O.kle v (kx key a 0)) hb hf) (push_take (out := #[]) hb)).swap
  by_cases h1 : (1 == b.size) = true
  · rw [if_pos h1]
    exact wpS_pure (h _ _ Sm.rfl' (J.dn (beq_num h1)))
  · rw [if_neg h1]
    by_cases h2 : (0 + 1 == a.size) = true
    · rw [if_pos h2]
      exact wpS_pure (h _ _ Sm.rfl' (J.la H.sz (beq_num h2) H.le))
    · rw [if_neg h2]
      refine wpS_bind (wpS_get ?_)
      unfold loO
      refine wpS_bind (wpS_mono (wpS_forRange (I := fun x c st' => Sm st st' ∧ c.1 = none ∧ Pm O key (a.toList ++ b.toList) a b x c.1 c.2.1 c.2.2.1 c.2.2.2.1) (Q := fun c st' => Sm st st' ∧ ∃ o, c.1 = some o ∧ Rs O key (a.toList ++ b.toList) o.toList) (fun x c st' _ _ hI => ?_) (fun c st' hI => ?_) ⟨Sm.rfl', rfl, .inr ⟨rfl, Nat.lt_of_le_of_ne ha (nbeq h2), Nat.lt_of_le_of_ne hb (nbeq h1), Nat.zero_le _, J⟩⟩) fun c st' hI => ?_)
      · obtain ⟨hs, hn, hP⟩ := hI
        rcases hP with ⟨o, e, _⟩ | ⟨_, J'⟩
        · rw [hn] at e; cases e
        · refine loO1_ok G H (hs.1.trans hk) J' (Nat.le_trans ha (Nat.le_add_right _ _)) fun r st2 hs2 hr => ?_
          cases r with
          | done c' => exact ⟨hs.trans hs2, hr⟩
          | yield c' => exact ⟨hs.trans hs2, hr.1, hr.2⟩
      · obtain ⟨hs, hn, hP⟩ := hI
        rcases hP with ⟨o, e, _⟩ | ⟨_, a1, a2, a3, _⟩
        · rw [hn] at e; cases e
        · rw [Nat.zero_max] at a3
          exact absurd (Nat.add_lt_add (Nat.lt_of_succ_lt a1) a2) (Nat.not_lt_of_le a3)
      · obtain ⟨r, c⟩ := c
        obtain ⟨hs, o, e, hr⟩ := hI
        obtain rfl : r = some o := e
        exact wpS_pure (h _ _ hs hr)
end
end Mine

namespace Mine

noncomputable def mergeHi' : Array Keyed → Array Keyed → StateT SortSt Sem (Array Keyed) := sortPriv% PySem.Builtin.mergeHi
abbrev H1 := RS × Nat × Nat × Array Keyed × Nat × Nat
abbrev H2 := RS × Nat × Nat × Array Keyed × Nat × Nat × Nat
abbrev H3 := RS × Nat × Nat × Array Keyed × Nat
noncomputable def dnH (a b out : Array Keyed) (na nb : Nat) : Array Keyed := a.extract 0 na ++ b.extract 0 nb ++ out.reverse
noncomputable def fbH (a b out : Array Keyed) (na nb : Nat) : Array Keyed := b.extract 0 nb ++ a.extract 0 na ++ out.reverse
noncomputable def hiA1 (a b : Array Keyed) (g na nb p q : Nat) (out : Array Keyed) (ac bc : Nat) : StateT SortSt Sem (ForInStep H1) := do
  let y ← elem' b q
  let x ← elem' a p
  let r ← lt' y x
  match r with
  | some aWins =>
    if aWins = true then do
      let x ← elem' a p
      if (p == 0) = true then pure (ForInStep.done (some (dnH a b (out.push x) p nb), p, nb, out.push x, ac + 1, 0))
      else if ac + 1 ≥ g then pure (ForInStep.done (none, p, nb, out.push x, ac + 1, 0))
      else pure (ForInStep.yield (none, p, nb, out.push x, ac + 1, 0))
    else do
      let y ← elem' b q
      if (q == 1) = true then pure (ForInStep.done (some (fbH a b (out.push y) na q), na, q, out.push y, 0, bc + 1))
      else if bc + 1 ≥ g then pure (ForInStep.done (none, na, q, out.push y, 0, bc + 1))
      else pure (ForInStep.yield (none, na, q, out.push y, 0, bc + 1))
  | _ => pure (ForInStep.done (some (dnH a b out na nb), na, nb, out, ac, bc))
noncomputable def hiA (a b : Array Keyed) (total g na nb : Nat) (out : Array Keyed) : StateT SortSt Sem H1 :=
  forIn [0:total] ((none, na, nb, out, 0, 0) : H1) fun _ c => hiA1 a b g c.2.1 c.2.2.1 (c.2.1 - 1) (c.2.2.1 - 1) c.2.2.2.1 c.2.2.2.2.1 c.2.2.2.2.2
noncomputable def hiG3 (a b : Array Keyed) (p nb : Nat) (out : Array Keyed) (g ac bc : Nat) : StateT SortSt Sem (ForInStep H2) := do
  let x ← elem' a p
  if (p == 0) = true then pure (ForInStep.done (some (dnH a b (out.push x) p nb), p, nb, out.push x, g, ac, bc))
  else if (decide (ac < 7) && decide (bc < 7)) = true then pure (ForInStep.done (none, p, nb, out.push x, g, ac, bc))
  else pure (ForInStep.yield (none, p, nb, out.push x, g, ac, bc))
noncomputable def hiG2 (a b : Array Keyed) (na p q : Nat) (out : Array Keyed) (g ac bc : Nat) : StateT SortSt Sem (ForInStep H2) := do
  let y ← elem' b q
  if (q == 1) = true then pure (ForInStep.done (some (fbH a b (out.push y) na q), na, q, out.push y, g, ac, bc))
  else do
    let x ← elem' a p
    let r ← gallop' true x b 0 q (q - 1)
    match r with
    | some at_ =>
      if q - at_ > 0 then
        if (at_ == 1) = true then pure (ForInStep.done (some (fbH a b (out.push y ++ (b.extract at_ q).reverse) na at_), na, at_, out.push y ++ (b.extract at_ q).reverse, g, ac, q - at_))
        else if (at_ == 0) = true then pure (ForInStep.done (some (dnH a b (out.push y ++ (b.extract at_ q).reverse) na at_), na, at_, out.push y ++ (b.extract at_ q).reverse, g, ac, q - at_))
        else hiG3 a b p at_ (out.push y ++ (b.extract at_ q).reverse) g ac (q - at_)
      else hiG3 a b p q (out.push y) g ac (q - at_)
    | _ => pure (ForInStep.done (some (dnH a b (out.push y) na q), na, q, out.push y, g, ac, bc))
noncomputable def hiG1 (a b : Array Keyed) (na nb p q : Nat) (out : Array Keyed) (g ac bc : Nat) : StateT SortSt Sem (ForInStep H2) := do
  setMinGallop' g
  let y ← elem' b q
  let r ← gallop' false y a 0 na p
  match r with
  | some at_ =>
    if na - at_ > 0 then
      if (at_ == 0) = true then pure (ForInStep.done (some (dnH a b (out ++ (a.extract at_ na).reverse) at_ nb), at_, nb, out ++ (a.extract at_ na).reverse, g, na - at_, bc))
      else hiG2 a b at_ (at_ - 1) q (out ++ (a.extract at_ na).reverse) g (na - at_) bc
    else hiG2 a b na p q out g (na - at_) bc
  | _ => pure (ForInStep.done (some (dnH a b out na nb), na, nb, out, g, ac, bc))
noncomputable def hiG (a b : Array Keyed) (total na nb : Nat) (out : Array Keyed) (g ac bc : Nat) : StateT SortSt Sem H2 :=
  forIn [0:total] ((none, na, nb, out, g, ac, bc) : H2) fun _ c =>
    if c.2.2.2.2.1 > 1 then hiG1 a b c.2.1 c.2.2.1 (c.2.1 - 1) (c.2.2.1 - 1) c.2.2.2.1 (c.2.2.2.2.1 - 1) c.2.2.2.2.2.1 c.2.2.2.2.2.2
    else hiG1 a b c.2.1 c.2.2.1 (c.2.1 - 1) (c.2.2.1 - 1) c.2.2.2.1 c.2.2.2.2.1 c.2.2.2.2.2.1 c.2.2.2.2.2.2
noncomputable def hiO1 (a b : Array Keyed) (total na nb : Nat) (out : Array Keyed) (g : Nat) : StateT SortSt Sem (ForInStep H3) := do
  let c ← hiA a b total g na nb out
  match c.1 with
  | some r => pure (ForInStep.done (some r, c.2.1, c.2.2.1, c.2.2.2.1, g))
  | none => do
    liftM (rule "list.sort.gallop")
    let d ← hiG a b total c.2.1 c.2.2.1 c.2.2.2.1 (g + 1) c.2.2.2.2.1 c.2.2.2.2.2
    match d.1 with
    | some r => pure (ForInStep.done (some r, d.2.1, d.2.2.1, d.2.2.2.1, d.2.2.2.2.1))
    | none => do
      setMinGallop' (d.2.2.2.2.1 + 1)
      pure (ForInStep.yield (none, d.2.1, d.2.2.1, d.2.2.2.1, d.2.2.2.2.1 + 1))
noncomputable def hiO (a b : Array Keyed) (total na nb : Nat) (out : Array Keyed) (g : Nat) : StateT SortSt Sem H3 :=
  forIn [0:total] ((none, na, nb, out, g) : H3) fun _ c => hiO1 a b total c.2.1 c.2.2.1 c.2.2.2.1 c.2.2.2.2
noncomputable def hiS (a b : Array Keyed) (p nb : Nat) : StateT SortSt Sem (Array Keyed) := do
  liftM (rule "list.sort.merge-hi")
  let x ← elem' a p
  if (p == 0) = true then pure (dnH a b #[x] p nb)
  else if (nb == 1) = true then pure (fbH a b #[x] p nb)
  else do
    let st ← get
    let c ← hiO a b (a.size + b.size) p nb #[x] (gallopOf st)
    match c.1 with
    | some r => pure r
    | none => liftM (unsupported "internal:list.sort.merge-bound")
theorem mhi_eq (a b : Array Keyed) : mergeHi' a b = hiS a b (a.size - 1) b.size := by kernel_rfl
abbrev opO (O : KeyOrd) : KeyOrd := ⟨O.α, fun a b => O.blt b a, O.irrefl, fun a b c h1 h2 => O.trans c b a h2 h1, fun a b c h => (O.negTrans c b a h).symm, fun a b h1 h2 => O.total a b h2 h1⟩
section
variable {O : KeyOrd} {key : Value → O.α} {L : List Keyed} {a b out out' : Array Keyed} {na nb k p q : Nat}
theorem take_split (l : List Keyed) {n : Nat} (hk : k ≤ n) : (l.take n).reverse = ((l.take n).drop k).reverse ++ (l.take k).reverse := by
  have e := List.take_append_drop k (l.take n)
  rw [List.take_take, Nat.min_eq_left hk] at e
  rw [← List.reverse_append, e]
theorem last_one (xs : Array Keyed) (h : p < xs.size) : (xs.toList.take (p + 1)).drop p = [xs[p]] := by
  rw [List.drop_take, Nat.add_sub_cancel_left, List.drop_eq_getElem_cons (by rwa [Array.length_toList])]; rfl
theorem push_last {xs : Array Keyed} (h : p < xs.size) : (out.push xs[p]).toList = out.toList ++ ((xs.toList.take (p + 1)).drop p).reverse := by
  rw [last_one xs h, Array.toList_push]; rfl
theorem ext_rev {xs : Array Keyed} : (out ++ (xs.extract k p).reverse).toList = out.toList ++ ((xs.toList.take p).drop k).reverse := by
  rw [Array.toList_append, Array.toList_reverse, Array.toList_extract, List.extract_eq_take_drop, List.drop_take]
theorem seg_one {P : O.α → Prop} {xs : Array Keyed} (hp : p < xs.size) (h : P (kx key xs p)) : ∀ x ∈ (xs.toList.take (p + 1)).drop p, P (key x.1) := fun x hx => by
  rw [last_one xs hp] at hx
  rw [List.mem_singleton.mp hx, ← kx_at (key := key) hp]; exact h
theorem seg_all {P : O.α → Prop} {xs : Array Keyed} {n : Nat} (h : ∀ i, k ≤ i → i < n → P (kx key xs i)) : ∀ x ∈ (xs.toList.take n).drop k, P (key x.1) := fun x hx => by
  obtain ⟨i, hi, rfl⟩ := List.mem_drop_iff_getElem.mp hx
  have h2 := hi
  rw [List.length_take, Array.length_toList, Nat.lt_min, Nat.add_comm i k] at h2
  rw [List.getElem_take, Array.getElem_toList, ← kx_at (key := key) h2.2]
  exact h _ (Nat.le_add_right _ _) h2.1
noncomputable def Jh (O : KeyOrd) (key : Value → O.α) (L : List Keyed) (a b out : Array Keyed) (na nb : Nat) : Prop := Mi (opO O) key L out.toList (b.toList.take nb).reverse (a.toList.take na).reverse
theorem top_le {xs : Array Keyed} (hp : p < xs.size) (h : (xs.toList.take (p + 1)).reverse.Pairwise (leK (opO O) key)) : ∀ z ∈ (xs.toList.take (p + 1)).reverse, O.kle (key z.1) (kx key xs p) := fun z hz => by
  rw [take_split _ (Nat.le_succ p), last_one xs hp] at h hz
  rw [kx_at hp]
  rcases List.mem_cons.mp hz with rfl | hz
  · exact KeyOrd.kle_refl _
  · exact (List.pairwise_cons.mp h).1 z hz
theorem Jh.offA (J : Jh O key L a b out na (q + 1)) (hk : k ≤ na) (hq : q < b.size) (hle : ∀ x ∈ (a.toList.take na).drop k, O.kle (kx key b q) (key x.1)) (e : out'.toList = out.toList ++ ((a.toList.take na).drop k).reverse) : Jh O key L a b out' k (q + 1) := by
  have hb := top_le hq (List.pairwise_append.mp J.2.1).2.1
  unfold Jh at J
  rw [take_split _ hk] at J
  have M := J.swap.take fun x hx z hz => KeyOrd.kle_trans (O := O) (hb z hz) (hle x (List.mem_reverse.mp hx))
  rw [← e] at M
  exact M.swap
theorem Jh.offB (J : Jh O key L a b out (p + 1) nb) (hk : k ≤ nb) (hp : p < a.size) (hle : ∀ x ∈ (b.toList.take nb).drop k, O.kle (kx key a p) (key x.1)) (e : out'.toList = out.toList ++ ((b.toList.take nb).drop k).reverse) : Jh O key L a b out' (p + 1) k := by
  have ha := top_le hp (List.pairwise_append.mp J.2.2).2.1
  unfold Jh at J
  rw [take_split _ hk] at J
  have M := J.take fun x hx z hz => KeyOrd.kle_trans (O := O) (ha z hz) (hle x (List.mem_reverse.mp hx))
  rw [← e] at M
  exact M
theorem Rs.turn {o o' : List Keyed} (h : Rs (opO O) key L o) (e : o' = o.reverse) : Rs O key L o' := by
  subst e
  exact ⟨(List.reverse_perm o).trans h.1, List.pairwise_reverse.mpr h.2⟩
theorem ext0_list (xs : Array Keyed) (n : Nat) : (xs.extract 0 n).toList = xs.toList.take n := by simp
theorem Jh.dn (J : Jh O key L a b out na nb) (h : na = 0 ∨ nb = 0) : Rs O key L (dnH a b out na nb).toList := by
  unfold Jh at J
  unfold dnH
  rw [Array.toList_append, Array.toList_append, ext0_list, ext0_list, Array.toList_reverse]
  rcases h with rfl | rfl
  · rw [List.take_zero, List.reverse_nil] at J
    exact J.out.turn (by simp)
  · rw [List.take_zero, List.reverse_nil] at J
    exact J.swap.out.turn (by simp)
theorem Jh.fb (J : Jh O key L a b out na nb) (h1 : nb = 1) (hb : 0 < b.size) (hf : ∀ i, i < na → O.kle (kx key b 0) (kx key a i)) : Rs O key L (fbH a b out na nb).toList := by
  subst h1
  have J2 := J.offA (out' := out ++ (a.extract 0 na).reverse) (k := 0) (Nat.zero_le _) hb (seg_all fun i _ hi => hf i hi) ext_rev
  have := J2.dn (.inl rfl)
  unfold dnH at this
  unfold fbH
  simpa using this
end

section
variable {prog : Program} {w : World} {A : Around} {E : Value → Shared → Prop} {s : Shared} {O : KeyOrd} {key : Value → O.α} {kd : SortKind} {a₀ a b : Array Keyed} {L : List Keyed}
noncomputable def Hs (O : KeyOrd) (key : Value → O.α) (L : List Keyed) (a b : Array Keyed) (m p q : Nat) (out : Array Keyed) : Prop := p < a.size ∧ q + 1 < b.size ∧ p + q < m ∧ Jh O key L a b out (p + 1) (q + 2)
noncomputable def Ph (O : KeyOrd) (key : Value → O.α) (L : List Keyed) (a b : Array Keyed) (m : Nat) (r : RS) (na nb : Nat) (out : Array Keyed) : Prop :=
  (∃ o, r = some o ∧ Rs O key L o.toList) ∨ (r = none ∧ ∃ p q, na = p + 1 ∧ nb = q + 2 ∧ Hs O key L a b m p q out)
noncomputable def Sh1 (O : KeyOrd) (key : Value → O.α) (L : List Keyed) (a b : Array Keyed) (m : Nat) : ForInStep H1 → Prop
  | .done c => Ph O key L a b m c.1 c.2.1 c.2.2.1 c.2.2.2.1
  | .yield c => c.1 = none ∧ Ph O key L a b m c.1 c.2.1 c.2.2.1 c.2.2.2.1
noncomputable def Sh2 (O : KeyOrd) (key : Value → O.α) (L : List Keyed) (a b : Array Keyed) (m : Nat) : ForInStep H2 → Prop
  | .done c => Ph O key L a b m c.1 c.2.1 c.2.2.1 c.2.2.2.1
  | .yield c => c.1 = none ∧ Ph O key L a b m c.1 c.2.1 c.2.2.1 c.2.2.2.1
variable {out : Array Keyed} {p q g ac bc m : Nat} {st : SortSt}
theorem Ph.le {r : RS} {na nb m2 : Nat} (h : Ph O key L a b m r na nb out) (hm : m ≤ m2) : Ph O key L a b m2 r na nb out := h.imp id fun ⟨q1, p, q, q2, q3, q4, q5, q6, q7⟩ => ⟨q1, p, q, q2, q3, q4, q5, Nat.lt_of_lt_of_le q6 hm, q7⟩
theorem left_a {k : Nat} (J : Jh O key L a b out k (q + 2)) (h0 : ¬ (k == 0) = true) (hk : k ≤ a.size) (hq : q + 1 < b.size) (hm : k + q ≤ m) : Ph O key L a b m none k (q + 2) out := by
  cases k with
  | zero => exact absurd rfl h0
  | succ p => exact .inr ⟨rfl, p, q, rfl, rfl, hk, hq, by rw [Nat.succ_add] at hm; exact hm, J⟩
theorem left_b {k : Nat} (J : Jh O key L a b out (p + 1) k) (h0 : ¬ (k == 0) = true) (h1 : ¬ (k == 1) = true) (hk : k ≤ b.size) (hp : p < a.size) (hm : p + k ≤ m + 1) : Ph O key L a b m none (p + 1) k out := by
  cases k with
  | zero => exact absurd rfl h0
  | succ k =>
    cases k with
    | zero => exact absurd rfl h1
    | succ q => exact .inr ⟨rfl, p, q, rfl, rfl, hp, hk, Nat.lt_of_succ_le (Nat.le_of_succ_le_succ hm), J⟩
theorem hiA1_ok (G : Mg prog w A E s O key kd a₀ a b) (hf : ∀ i, i < a.size → O.kle (kx key b 0) (kx key a i)) (hk : kindOf st = kd) (H : Hs O key L a b (m + 1) p q out)
    {Q : ForInStep H1 → SortSt → Prop} (h : ∀ r, Sh1 O key L a b m r → Q r st) : wpS (model prog w) A E s (hiA1 a b g (p + 1) (q + 2) p (q + 1) out ac bc) Q st := by
  unfold hiA1
  obtain ⟨h1, h2, h3, J⟩ := H
  have h3 := Nat.le_of_lt_succ h3
  have ea : a[p]? = some a[p] := getElem?_pos a p h1
  have eb : b[q + 1]? = some b[q + 1] := getElem?_pos b (q + 1) h2
  refine wpS_bind (elem_ok eb (wpS_bind (elem_ok ea (wpS_bind (G.C _ _ (G.mb _ (by simp)) (G.ma _ (by simp)) _ _ hk ?_)))))
  rw [← kx_at (key := key) h1, ← kx_at (key := key) h2]
  cases e : O.blt (kx key b (q + 1)) (kx key a p) with
  | true =>
    refine wpS_bind (elem_ok ea ?_)
    have J2 := J.offA (out' := out.push a[p]) (Nat.le_succ p) h2 (seg_one (P := fun v => O.kle (kx key b (q + 1)) v) h1 (KeyOrd.kle_of_klt e)) (push_last h1)
    by_cases hb : (p == 0) = true
    · rw [if_pos hb]
      exact wpS_pure (h _ (.inl ⟨_, rfl, J2.dn (.inl (beq_num hb))⟩))
    · rw [if_neg hb]
      have pm := left_a J2 hb (Nat.le_of_lt h1) h2 h3
      split
      · exact wpS_pure (h _ pm)
      · exact wpS_pure (h _ ⟨rfl, pm⟩)
  | false =>
    refine wpS_bind (elem_ok eb ?_)
    have J2 := J.offB (out' := out.push b[q + 1]) (Nat.le_succ _) h1 (seg_one (P := fun v => O.kle (kx key a p) v) h2 e) (push_last h2)
    by_cases hb : (q + 1 == 1) = true
    · rw [if_pos hb]
      exact wpS_pure (h _ (.inl ⟨_, rfl, J2.fb (beq_num hb) (Nat.lt_of_le_of_lt (Nat.zero_le _) h2) fun i hi => hf i (Nat.lt_of_lt_of_le hi h1)⟩))
    · rw [if_neg hb]
      have pm := left_b J2 (by simp) hb (Nat.le_of_lt h2) h1 (Nat.succ_le_succ h3)
      split
      · exact wpS_pure (h _ pm)
      · exact wpS_pure (h _ ⟨rfl, pm⟩)
theorem hiA_ok (G : Mg prog w A E s O key kd a₀ a b) (hf : ∀ i, i < a.size → O.kle (kx key b 0) (kx key a i)) (hk : kindOf st = kd) (H : Hs O key L a b (m + 1) p q out) {total : Nat}
    {Q : H1 → SortSt → Prop} (h : ∀ c : H1, Ph O key L a b (m + 1) c.1 c.2.1 c.2.2.1 c.2.2.2.1 → Q c st) : wpS (model prog w) A E s (hiA a b total g (p + 1) (q + 2) out) Q st := by
  unfold hiA
  refine wpS_mono (wpS_forRange (I := fun _ c st' => st' = st ∧ c.1 = none ∧ Ph O key L a b (m + 1) c.1 c.2.1 c.2.2.1 c.2.2.2.1) (Q := fun c st' => st' = st ∧ Ph O key L a b (m + 1) c.1 c.2.1 c.2.2.1 c.2.2.2.1) (fun x c st' _ _ hI => ?_) (fun c st' hI => ⟨hI.1, hI.2.2⟩) ⟨rfl, rfl, .inr ⟨rfl, p, q, rfl, rfl, H⟩⟩) fun c st' hI => by obtain ⟨rfl, hI⟩ := hI; exact h c hI
  obtain ⟨rfl, hn, hP⟩ := hI
  rcases hP with ⟨o, e, _⟩ | ⟨_, p', q', e1, e2, H'⟩
  · rw [hn] at e; cases e
  · rw [e1, e2]
    refine hiA1_ok G hf hk H' fun r hr => ?_
    cases r with
    | done c' => exact ⟨rfl, Ph.le hr (Nat.le_succ m)⟩
    | yield c' => exact ⟨rfl, hr.1, hr.2.le (Nat.le_succ m)⟩
theorem hiG3_ok {k : Nat} (G : Mg prog w A E s O key kd a₀ a b) (J : Jh O key L a b out (p + 1) k) (h0 : ¬ (k == 0) = true) (h1 : ¬ (k == 1) = true) (hk : k ≤ b.size) (hp : p < a.size) (hm : p + k ≤ m + 2) (hle : ∀ j, k = j + 1 → O.kle (kx key b j) (kx key a p))
    {Q : ForInStep H2 → SortSt → Prop} (h : ∀ r, Sh2 O key L a b m r → Q r st) : wpS (model prog w) A E s (hiG3 a b p k out g ac bc) Q st := by
  unfold hiG3
  refine wpS_bind (elem_ok (getElem?_pos a p hp) ?_)
  cases k with
  | zero => exact absurd rfl h0
  | succ j =>
    have J2 := J.offA (out' := out.push a[p]) (Nat.le_succ p) hk (seg_one (P := fun v => O.kle (kx key b j) v) hp (hle j rfl)) (push_last hp)
    by_cases hb : (p == 0) = true
    · rw [if_pos hb]
      exact wpS_pure (h _ (.inl ⟨_, rfl, J2.dn (.inl (beq_num hb))⟩))
    · rw [if_neg hb]
      have pm : Ph O key L a b m none p (j + 1) (out.push a[p]) := by
        cases j with
        | zero => exact absurd rfl h1
        | succ q => exact left_a J2 hb (Nat.le_of_lt hp) hk (Nat.le_of_succ_le_succ (Nat.le_of_succ_le_succ hm))
      split
      · exact wpS_pure (h _ pm)
      · exact wpS_pure (h _ ⟨rfl, pm⟩)
theorem hiG2_ok (G : Mg prog w A E s O key kd a₀ a b) (hf : ∀ i, i < a.size → O.kle (kx key b 0) (kx key a i)) (hk : kindOf st = kd) (J : Jh O key L a b out (p + 1) (q + 2)) (hp : p < a.size) (hq : q + 1 < b.size) (hm : p + q ≤ m) (hle : O.kle (kx key a p) (kx key b (q + 1)))
    {Q : ForInStep H2 → SortSt → Prop} (h : ∀ r, Sh2 O key L a b m r → Q r st) : wpS (model prog w) A E s (hiG2 a b (p + 1) p (q + 1) out g ac bc) Q st := by
  unfold hiG2
  refine wpS_bind (elem_ok (getElem?_pos b (q + 1) hq) ?_)
  have hb0 : 0 < b.size := Nat.lt_of_le_of_lt (Nat.zero_le _) hq
  have hfa : ∀ i, i < p + 1 → O.kle (kx key b 0) (kx key a i) := fun i hi => hf i (Nat.lt_of_lt_of_le hi hp)
  have J2 := J.offB (out' := out.push b[q + 1]) (Nat.le_succ _) hp (seg_one (P := fun v => O.kle (kx key a p) v) hq hle) (push_last hq)
  have hm2 : p + (q + 1) ≤ m + 2 := Nat.le_trans (Nat.succ_le_succ hm) (Nat.le_succ _)
  by_cases hb : (q + 1 == 1) = true
  · rw [if_pos hb]
    exact wpS_pure (h _ (.inl ⟨_, rfl, J2.fb (beq_num hb) hb0 hfa⟩))
  · rw [if_neg hb]
    refine wpS_bind (elem_ok (getElem?_pos a p hp) (wpS_bind (gallop_ok (n := q + 1) (hint := q) (bey_less G.C hk (G.ma _ (by simp)) G.mb (by rw [Nat.zero_add]; exact Nat.le_of_lt hq) (G.ub.from (by rw [Nat.zero_add]; exact Nat.le_of_lt hq))) (Nat.lt_succ_self q) fun k hkn k1 k2 => ?_)))
    rw [← kx_at (key := key) hp] at k1 k2
    simp only [Nat.zero_add] at k1 k2
    dsimp only
    by_cases e : k = q + 1
    · rw [e, Nat.sub_self, if_neg (Nat.lt_irrefl 0)]
      exact hiG3_ok G J2 (by simp) hb (Nat.le_of_lt hq) hp hm2 (fun j ej => KeyOrd.kle_of_klt (k1 j (by rw [e, ej]; exact Nat.lt_succ_self j))) h
    · have hlt := Nat.lt_of_le_of_ne hkn e
      rw [if_pos (Nat.sub_pos_of_lt hlt)]
      have J3 := J2.offB (out' := out.push b[q + 1] ++ (b.extract k (q + 1)).reverse) hkn hp (seg_all k2) ext_rev
      by_cases e1 : (k == 1) = true
      · rw [if_pos e1]
        exact wpS_pure (h _ (.inl ⟨_, rfl, J3.fb (beq_num e1) hb0 hfa⟩))
      · rw [if_neg e1]
        by_cases e2 : (k == 0) = true
        · rw [if_pos e2]
          exact wpS_pure (h _ (.inl ⟨_, rfl, J3.dn (.inr (beq_num e2))⟩))
        · rw [if_neg e2]
          exact hiG3_ok G J3 e2 e1 (Nat.le_trans hkn (Nat.le_of_lt hq)) hp (Nat.le_trans (Nat.add_le_add_left hkn p) hm2) (fun j ej => KeyOrd.kle_of_klt (k1 j (by rw [ej]; exact Nat.lt_succ_self j))) h
theorem hiG1_ok (G : Mg prog w A E s O key kd a₀ a b) (hf : ∀ i, i < a.size → O.kle (kx key b 0) (kx key a i)) (hk : kindOf st = kd) (H : Hs O key L a b (m + 1) p q out)
    {Q : ForInStep H2 → SortSt → Prop} (h : ∀ r st', Sm st st' → Sh2 O key L a b m r → Q r st') : wpS (model prog w) A E s (hiG1 a b (p + 1) (q + 2) p (q + 1) out g ac bc) Q st := by
  unfold hiG1
  obtain ⟨h1, h2, h3, J⟩ := H
  have h3 := Nat.le_of_lt_succ h3
  refine wpS_bind (setMG_ok fun st' hs => wpS_bind (elem_ok (getElem?_pos b (q + 1) h2) (wpS_bind (gallop_ok (n := p + 1) (hint := p) (bey_more G.C (hs.1.trans hk) (G.mb _ (by simp)) G.ma (by rw [Nat.zero_add]; exact h1) (G.ua.from (by rw [Nat.zero_add]; exact h1))) (Nat.lt_succ_self p) fun k hkn k1 k2 => ?_))))
  rw [← kx_at (key := key) h2] at k1 k2
  simp only [Nat.zero_add] at k1 k2
  have k1' : ∀ i, i < k → O.kle (kx key a i) (kx key b (q + 1)) := fun i hi => nb_t (k1 i hi)
  have k2' : ∀ i, k ≤ i → i < p + 1 → O.kle (kx key b (q + 1)) (kx key a i) := fun i q1 q2 => KeyOrd.kle_of_klt (nb_f (k2 i q1 q2))
  dsimp only
  by_cases e : k = p + 1
  · rw [e, Nat.sub_self, if_neg (Nat.lt_irrefl 0)]
    exact hiG2_ok G hf (hs.1.trans hk) J h1 h2 h3 (k1' p (by rw [e]; exact Nat.lt_succ_self p)) fun r hr => h r _ hs hr
  · have hlt := Nat.lt_of_le_of_ne hkn e
    rw [if_pos (Nat.sub_pos_of_lt hlt)]
    have J3 := J.offA (out' := out ++ (a.extract k (p + 1)).reverse) hkn h2 (seg_all k2') ext_rev
    by_cases e2 : (k == 0) = true
    · rw [if_pos e2]
      exact wpS_pure (h _ _ hs (.inl ⟨_, rfl, J3.dn (.inl (beq_num e2))⟩))
    · rw [if_neg e2]
      cases k with
      | zero => exact absurd rfl e2
      | succ k =>
        have hk1 := Nat.lt_of_succ_lt_succ hlt
        exact hiG2_ok G hf (hs.1.trans hk) J3 (Nat.lt_trans hk1 h1) h2 (Nat.le_trans (Nat.add_le_add_right (Nat.le_of_lt hk1) q) h3) (k1' k (Nat.lt_succ_self k)) fun r hr => h r _ hs hr
theorem hiG_ok (G : Mg prog w A E s O key kd a₀ a b) (hf : ∀ i, i < a.size → O.kle (kx key b 0) (kx key a i)) (hk : kindOf st = kd) (H : Hs O key L a b (m + 1) p q out) {total : Nat} (ht : 1 ≤ total)
    {Q : H2 → SortSt → Prop} (h : ∀ (c : H2) st', Sm st st' → Ph O key L a b m c.1 c.2.1 c.2.2.1 c.2.2.2.1 → Q c st') : wpS (model prog w) A E s (hiG a b total (p + 1) (q + 2) out g ac bc) Q st := by
  unfold hiG
  refine wpS_mono (wpS_forRange (I := fun x c st' => Sm st st' ∧ c.1 = none ∧ ((x = 0 ∧ Ph O key L a b (m + 1) c.1 c.2.1 c.2.2.1 c.2.2.2.1) ∨ Ph O key L a b m c.1 c.2.1 c.2.2.1 c.2.2.2.1)) (Q := fun c st' => Sm st st' ∧ Ph O key L a b m c.1 c.2.1 c.2.2.1 c.2.2.2.1) (fun x c st' _ _ hI => ?_) (fun c st' hI => ⟨hI.1, hI.2.2.resolve_left fun z => absurd z.1 (Nat.ne_of_gt (Nat.lt_of_lt_of_le ht (Nat.le_max_right 0 total)))⟩) ⟨Sm.rfl', rfl, .inl ⟨rfl, .inr ⟨rfl, p, q, rfl, rfl, H⟩⟩⟩) fun c st' hI => h c st' hI.1 hI.2
  obtain ⟨hs, hn, hP⟩ := hI
  have hP : Ph O key L a b (m + 1) c.1 c.2.1 c.2.2.1 c.2.2.2.1 := hP.elim (·.2) fun z => z.le (Nat.le_succ m)
  rcases hP with ⟨o, e, _⟩ | ⟨_, p', q', e1, e2, H'⟩
  · rw [hn] at e; cases e
  · rw [e1, e2]
    split
    all_goals
      refine hiG1_ok G hf (hs.1.trans hk) H' fun r st2 hs2 hr => ?_
      cases r with
      | done c' => exact ⟨hs.trans hs2, hr⟩
      | yield c' => exact ⟨hs.trans hs2, hr.1, .inr hr.2⟩
noncomputable def Sh3 (O : KeyOrd) (key : Value → O.α) (L : List Keyed) (a b : Array Keyed) (m : Nat) : ForInStep H3 → Prop
  | .done c => ∃ o, c.1 = some o ∧ Rs O key L o.toList
  | .yield c => c.1 = none ∧ Ph O key L a b m c.1 c.2.1 c.2.2.1 c.2.2.2.1
theorem hiO1_ok (G : Mg prog w A E s O key kd a₀ a b) (hf : ∀ i, i < a.size → O.kle (kx key b 0) (kx key a i)) (hk : kindOf st = kd) (H : Hs O key L a b (m + 1) p q out) {total : Nat} (ht : 1 ≤ total)
    {Q : ForInStep H3 → SortSt → Prop} (h : ∀ r st', Sm st st' → Sh3 O key L a b m r → Q r st') : wpS (model prog w) A E s (hiO1 a b total (p + 1) (q + 2) out g) Q st := by
  unfold hiO1
  refine wpS_bind (hiA_ok G hf hk H fun c hc => ?_)
  obtain ⟨r, i1, j1, o1, x1, y1⟩ := c
  rcases hc with ⟨o, e, hr⟩ | ⟨e, p1, q1, rfl, rfl, H1⟩
  · obtain rfl : r = some o := e
    exact wpS_pure (h _ _ Sm.rfl' ⟨o, rfl, hr⟩)
  · obtain rfl : r = none := e
    refine wpS_bind (wpS_lift (wpAny_rule ⟨rfl, ?_⟩))
    refine wpS_bind (hiG_ok G hf hk H1 ht fun d st' hs hd => ?_)
    obtain ⟨r, i2, j2, o2, g2, x2, y2⟩ := d
    rcases hd with ⟨o, e, hr⟩ | ⟨e, hr⟩
    · obtain rfl : r = some o := e
      exact wpS_pure (h _ _ hs ⟨o, rfl, hr⟩)
    · obtain rfl : r = none := e
      exact wpS_bind (setMG_ok fun st2 hs2 => wpS_pure (h _ _ (hs.trans hs2) ⟨rfl, .inr ⟨rfl, hr⟩⟩))
theorem Jh.start (ha : Up O key a 0 a.size) (hb : Up O key b 0 b.size) : Jh O key (a.toList ++ b.toList) a b #[] a.size b.size := by
  unfold Jh
  rw [List.take_of_length_le (Nat.le_of_eq Array.length_toList), List.take_of_length_le (Nat.le_of_eq Array.length_toList)]
  exact ⟨((List.reverse_perm b.toList).append (List.reverse_perm a.toList)).trans List.perm_append_comm, List.pairwise_reverse.mpr hb.pairs, List.pairwise_reverse.mpr ha.pairs⟩
theorem mhi_ok (G : Mg prog w A E s O key kd a₀ a b) (hf : ∀ i, i < a.size → O.kle (kx key b 0) (kx key a i)) (hk : kindOf st = kd) {p q : Nat} (ha : a.size = p + 1) (hb : b.size = q + 1) (hl : O.kle (kx key b q) (kx key a p))
    {Q : Array Keyed → SortSt → Prop} (h : ∀ o st', Sm st st' → Rs O key (a.toList ++ b.toList) o.toList → Q o st') : wpS (model prog w) A E s (mergeHi' a b) Q st := by
  have hp : p < a.size := by rw [ha]; exact Nat.lt_succ_self p
  have hq : q < b.size := by rw [hb]; exact Nat.lt_succ_self q
  have J := Jh.start G.ua G.ub
  rw [ha, hb] at J
  rw [mhi_eq, ha, hb]
  show wpS (model prog w) A E s (hiS a b p (q + 1)) Q st
  unfold hiS
  refine wpS_bind (wpS_lift (wpAny_rule ⟨rfl, ?_⟩))
  refine wpS_bind (elem_ok (getElem?_pos a p hp) ?_)
  have J := J.offA (out' := #[a[p]]) (Nat.le_succ p) hq (seg_one (P := fun v => O.kle (kx key b q) v) hp hl) (push_last (out := #[]) hp)
  by_cases h1 : (p == 0) = true
  · rw [if_pos h1]
    exact wpS_pure (h _ _ Sm.rfl' (J.dn (.inl (beq_num h1))))
  · rw [if_neg h1]
    by_cases h2 : (q + 1 == 1) = true
    · rw [if_pos h2]
      exact wpS_pure (h _ _ Sm.rfl' (J.fb (beq_num h2) (Nat.lt_of_le_of_lt (Nat.zero_le _) hq) fun i hi => hf i (Nat.lt_trans hi hp)))
    · rw [if_neg h2]
      refine wpS_bind (wpS_get ?_)
      unfold hiO
      have st0 : Ph O key (a.toList ++ b.toList) a b (a.size + b.size) none p (q + 1) #[a[p]] := by
        cases q with
        | zero => exact absurd rfl h2
        | succ q => exact left_a J h1 (Nat.le_of_lt hp) hq (Nat.add_le_add (Nat.le_of_lt hp) (Nat.le_of_lt (Nat.lt_of_succ_lt hq)))
      refine wpS_bind (wpS_mono (wpS_forRange (I := fun x c st' => Sm st st' ∧ c.1 = none ∧ ∃ m, m + x ≤ a.size + b.size ∧ Ph O key (a.toList ++ b.toList) a b m c.1 c.2.1 c.2.2.1 c.2.2.2.1) (Q := fun c st' => Sm st st' ∧ ∃ o, c.1 = some o ∧ Rs O key (a.toList ++ b.toList) o.toList) (fun x c st' _ _ hI => ?_) (fun c st' hI => ?_) ⟨Sm.rfl', rfl, _, Nat.le_refl _, st0⟩) fun c st' hI => ?_)
      · obtain ⟨hs, hn, m, hm, hP⟩ := hI
        rcases hP with ⟨o, e, _⟩ | ⟨_, p', q', e1, e2, H'⟩
        · rw [hn] at e; cases e
        · rw [e1, e2]
          cases m with
          | zero => exact absurd H'.2.2.1 (Nat.not_lt_zero _)
          | succ m =>
            refine hiO1_ok G hf (hs.1.trans hk) H' (Nat.le_trans (Nat.succ_le_of_lt (Nat.lt_of_le_of_lt (Nat.zero_le _) hp)) (Nat.le_add_right _ _)) fun r st2 hs2 hr => ?_
            cases r with
            | done c' => exact ⟨hs.trans hs2, hr⟩
            | yield c' => exact ⟨hs.trans hs2, hr.1, m, by rw [Nat.succ_add] at hm; exact hm, hr.2⟩
      · obtain ⟨hs, hn, m, hm, hP⟩ := hI
        rcases hP with ⟨o, e, _⟩ | ⟨_, p', q', e1, e2, H'⟩
        · rw [hn] at e; cases e
        · rw [Nat.zero_max] at hm
          have h0 : m = 0 := Nat.le_zero.mp (Nat.le_of_add_le_add_right (by rw [Nat.zero_add]; exact hm))
          rw [h0] at H'
          exact absurd H'.2.2.1 (Nat.not_lt_zero _)
      · obtain ⟨r, c⟩ := c
        obtain ⟨hs, o, e, hr⟩ := hI
        obtain rfl : r = some o := e
        exact wpS_pure (h _ _ hs hr)
end
end Mine

namespace Mine

noncomputable def mat4 (sa : Nat) (m : Array Keyed) : StateT SortSt Sem Bool := do
  modify fun s => setArr s (m.toList.zipIdx.foldl (fun a (p, j) => a.setIfInBounds (sa + j) p) (arrOf s))
  let st ← get
  pure (failedOf st).isNone
noncomputable def mat3 (arr : Array Keyed) (sa na sb q : Nat) : StateT SortSt Sem Bool :=
  if (q == 0) = true then pure true
  else if na ≤ q then do
    let m ← mergeLo' (arr.extract sa sb) (arr.extract sb (sb + q))
    mat4 sa m
  else do
    let m ← mergeHi' (arr.extract sa sb) (arr.extract sb (sb + q))
    mat4 sa m
noncomputable def mat2 (arr : Array Keyed) (sa na sb nb : Nat) : StateT SortSt Sem Bool :=
  if (na == 0) = true then pure true
  else do
    let z ← elem' arr (sa + na - 1)
    let r ← gallop' true z arr sb nb (nb - 1)
    match r with
    | some q => mat3 arr sa na sb q
    | _ => pure false
noncomputable def mat1 (arr : Array Keyed) (sa na sb nb : Nat) : StateT SortSt Sem Bool := do
  let y ← elem' arr sb
  let r ← gallop' false y arr sa na 0
  match r with
  | some k => mat2 arr (sa + k) (na - k) sb nb
  | _ => pure false
theorem mat_eq (i : Nat) : mergeAt' i = (do
  let s ← get
  match (pendingOf s)[i]?, (pendingOf s)[i + 1]? with
  | some (sa, na, power), some (sb, nb, _) => do
    modify fun _ => (setPending s (((pendingOf s).setIfInBounds i (sa, na + nb, power)).eraseIdxIfInBounds (i + 1)))
    mat1 (arrOf s) sa na sb nb
  | _, _ => liftM (unsupported "internal:list.sort.pending")) := by kernel_rfl
theorem over_list (S : List Keyed) (i : Nat) (o : List Keyed) : ∀ (X P : List Keyed) (j : Nat) (xs : Array Keyed), xs.toList = P ++ (X ++ S) → X.length = o.length → P.length = i + j →
    ((o.zipIdx j).foldl (fun a (p : Keyed × Nat) => a.setIfInBounds (i + p.2) p.1) xs).toList = P ++ (o ++ S) := by
  induction o with
  | nil =>
    intro X P j xs h hl hp
    rw [List.length_eq_zero_iff.mp hl] at h
    exact h
  | cons p o ih =>
    intro X P j xs h hl hp
    obtain ⟨x, X, rfl⟩ := List.exists_cons_of_length_eq_add_one hl
    rw [List.zipIdx_cons, List.foldl_cons, ih X (P ++ [p]) (j + 1) _ ?_ (Nat.succ.inj hl) (by rw [List.length_append, hp]; rfl), List.append_assoc]
    · rfl
    · rw [Array.toList_setIfInBounds, h, List.set_append_right _ _ (Nat.le_of_eq hp), hp, Nat.sub_self, List.append_assoc]
      rfl
section
variable {prog : Program} {w : World} {A : Around} {E : Value → Shared → Prop} {s : Shared} {O : KeyOrd} {key : Value → O.α} {kd : SortKind} {a₀ : Array Keyed}
theorem pairs_up {xs : Array Keyed} (h : xs.toList.Pairwise (leK O key)) : Up O key xs 0 xs.size := fun i j hij hj => by
  rw [Nat.zero_add, Nat.zero_add]
  rcases Nat.lt_or_eq_of_le hij with q | q
  · rw [kx_at (key := key) (Nat.lt_trans q hj), kx_at (key := key) hj]
    exact (List.pairwise_iff_getElem.mp h) i j (Nat.lt_of_lt_of_eq (Nat.lt_trans q hj) Array.length_toList.symm) (Nat.lt_of_lt_of_eq hj Array.length_toList.symm) q
  · rw [q]; exact KeyOrd.kle_refl _
theorem kx_ext {xs : Array Keyed} {i j k : Nat} (hj : j ≤ xs.size) (h : i + k < j) : kx key (xs.extract i j) k = kx key xs (i + k) := kx_congr (by
  rw [Array.getElem?_extract, if_pos (Nat.lt_sub_of_add_lt (by rw [Nat.add_comm, Nat.min_eq_left hj]; exact h))])
theorem parts {P X Y S o : List Keyed} (h1 : (P ++ X).Pairwise (leK O key)) (h2 : (Y ++ S).Pairwise (leK O key)) (h3 : ∀ x ∈ P, ∀ y ∈ Y ++ S, leK O key x y) (h4 : ∀ x ∈ X, ∀ y ∈ S, leK O key x y) (h : Rs O key (X ++ Y) o) :
    Rs O key (P ++ (X ++ Y ++ S)) (P ++ (o ++ S)) := by
  obtain ⟨hp, ho⟩ := h
  have hm : ∀ x, x ∈ o ↔ x ∈ X ∨ x ∈ Y := fun x => hp.mem_iff.trans List.mem_append
  obtain ⟨p1, p2, p3⟩ := List.pairwise_append.mp h1
  obtain ⟨q1, q2, q3⟩ := List.pairwise_append.mp h2
  refine ⟨(hp.append_right S).append_left P, List.pairwise_append.mpr ⟨p1, List.pairwise_append.mpr ⟨ho, q2, fun x hx y hy => ?_⟩, fun x hx y hy => ?_⟩⟩
  · rcases (hm x).mp hx with hx | hx
    · exact h4 x hx y hy
    · exact q3 x hx y hy
  · rcases List.mem_append.mp hy with hy | hy
    · rcases (hm y).mp hy with hy | hy
      · exact p3 x hx y hy
      · exact h3 x hx y (List.mem_append_left _ hy)
    · exact h3 x hx y (List.mem_append_right _ hy)
theorem up_seg {xs : Array Keyed} {m n : Nat} (h : Up O key xs m n) : ((xs.toList.take (m + n)).drop m).Pairwise (leK O key) := by
  rw [List.pairwise_iff_getElem]
  intro i j hi hj hij
  have h2 := hj
  rw [List.length_drop] at h2
  have h2 := Nat.add_lt_of_lt_sub h2
  rw [List.length_take, Array.length_toList, Nat.lt_min, Nat.add_comm j m] at h2
  have hjn : j < n := Nat.lt_of_add_lt_add_left h2.1
  have q := h i j (Nat.le_of_lt hij) hjn
  rw [kx_at (key := key) (Nat.lt_trans (Nat.add_lt_add_left hij m) h2.2), kx_at (key := key) h2.2] at q
  simpa [leK] using q
theorem cut4 {xs o : Array Keyed} {k d n2 q : Nat} {y z : O.α} (hs : xs.size = k + d + n2) (hq : q ≤ n2) (u1 : Up O key xs 0 (k + d)) (u2 : Up O key xs (k + d) n2)
    (a1 : ∀ i, i < k → O.kle (kx key xs i) y) (a2 : ∀ i, k + d ≤ i → i < k + d + n2 → O.kle y (kx key xs i)) (b1 : ∀ i, k ≤ i → i < k + d → O.kle (kx key xs i) z) (b2 : ∀ i, k + d + q ≤ i → i < k + d + n2 → O.kle z (kx key xs i))
    (h : Rs O key ((xs.extract k (k + d)).toList ++ (xs.extract (k + d) (k + d + q)).toList) o.toList) : Rs O key xs.toList (o.toList.zipIdx.foldl (fun a (p : Keyed × Nat) => a.setIfInBounds (k + p.2) p.1) xs).toList := by
  have ls : xs.toList.length = k + d + n2 := by rw [Array.length_toList, hs]
  have e1 : (xs.extract k (k + d)).toList = (xs.toList.take (k + d)).drop k := by rw [Array.toList_extract, List.extract_eq_take_drop, List.drop_take]
  have e2 : (xs.extract (k + d) (k + d + q)).toList = (xs.toList.drop (k + d)).take q := by rw [Array.toList_extract, List.extract_eq_take_drop, Nat.add_sub_cancel_left]
  have c1 : xs.toList.take k ++ (xs.toList.take (k + d)).drop k = xs.toList.take (k + d) := by
    have e := List.take_append_drop k (xs.toList.take (k + d))
    rwa [List.take_take, Nat.min_eq_left (Nat.le_add_right k d)] at e
  have c2 : ∀ n, (xs.toList.drop n).take q ++ xs.toList.drop (n + q) = xs.toList.drop n := fun n => by rw [← List.drop_drop, List.take_append_drop]
  have all : xs.toList.take (k + d + n2) = xs.toList := List.take_of_length_le (Nat.le_of_eq ls)
  have w1 := up_seg u1
  rw [Nat.zero_add, List.drop_zero] at w1
  have w2 := up_seg u2
  rw [all] at w2
  rw [e1, e2] at h
  have r := parts (P := xs.toList.take k) (S := xs.toList.drop (k + d + q)) (by rw [c1]; exact w1) (by rw [c2]; exact w2) (fun x hx v hv => ?_) (fun x hx v hv => ?_) h
  · have cc : xs.toList = xs.toList.take k ++ ((xs.toList.take (k + d)).drop k ++ (xs.toList.drop (k + d)).take q ++ xs.toList.drop (k + d + q)) := by
      rw [List.append_assoc, c2, ← List.append_assoc, c1, List.take_append_drop]
    rw [over_list _ k o.toList _ _ 0 xs cc h.1.length_eq.symm (List.length_take_of_le (by rw [ls, Nat.add_assoc]; exact Nat.le_add_right _ _))]
    rwa [← cc] at r
  · rw [c2] at hv
    have q1 := seg_all (P := fun v => O.kle v y) (k := 0) (fun i _ hi => a1 i hi) x (by rw [List.drop_zero]; exact hx)
    have q2 := seg_all (P := fun v => O.kle y v) a2 v (by rw [all]; exact hv)
    exact KeyOrd.kle_trans (O := O) q1 q2
  · exact KeyOrd.kle_trans (O := O) (seg_all (P := fun v => O.kle v z) b1 x hx) (seg_all (P := fun v => O.kle z v) b2 v (by rw [all]; exact hv))
theorem two_up {xs : Array Keyed} {n1 n2 : Nat} (u1 : Up O key xs 0 n1) (u2 : Up O key xs n1 n2) (h : ∀ i j, i < n1 → n1 ≤ j → j < n1 + n2 → O.kle (kx key xs i) (kx key xs j)) : Up O key xs 0 (n1 + n2) := fun i j hij hj => by
  rcases Nat.lt_or_ge j n1 with q | q
  · exact u1 i j hij q
  · rw [Nat.zero_add, Nat.zero_add]
    rcases Nat.lt_or_ge i n1 with p | p
    · exact h i j p q hj
    · obtain ⟨i, rfl⟩ := Nat.exists_eq_add_of_le p
      obtain ⟨j, rfl⟩ := Nat.exists_eq_add_of_le q
      exact u2 i j (Nat.le_of_add_le_add_left hij) (Nat.lt_of_add_lt_add_left hj)
theorem Up.at_last {xs : Array Keyed} {n i : Nat} (u : Up O key xs 0 (n + 1)) (h : i < n + 1) : O.kle (kx key xs i) (kx key xs n) := by
  have := u i n (Nat.le_of_lt_succ h) (Nat.lt_succ_self n)
  rwa [Nat.zero_add, Nat.zero_add] at this
theorem Up.at_first {xs : Array Keyed} {m n i : Nat} (u : Up O key xs m n) (h1 : m ≤ i) (h2 : i < m + n) : O.kle (kx key xs m) (kx key xs i) := by
  obtain ⟨i, rfl⟩ := Nat.exists_eq_add_of_le h1
  exact u 0 i (Nat.zero_le _) (Nat.lt_of_add_lt_add_left h2)
structure M2 (kd : SortKind) (a₀ arr : Array Keyed) (st : SortSt) : Prop where
  perm : arr.Perm a₀
  arr : arrOf st = arr
  kind : kindOf st = kd
  failed : failedOf st = none
  pend : (pendingOf st).size = 1
theorem mat3_ok (C : Cmps prog w A E s O key kd a₀) {arr : Array Keyed} {st : SortSt} (H : M2 kd a₀ arr st) {k e n2 q : Nat} (hz : arr.size = k + (e + 1) + n2) (hq : q ≤ n2) (u1 : Up O key arr 0 (k + (e + 1))) (u2 : Up O key arr (k + (e + 1)) n2)
    (g1 : ∀ i, i < k → O.kle (kx key arr i) (kx key arr (k + (e + 1)))) (g2 : ∀ i, k ≤ i → i < k + (e + 1) → O.klt (kx key arr (k + (e + 1))) (kx key arr i)) (j1 : ∀ i, i < q → O.klt (kx key arr (k + (e + 1) + i)) (kx key arr (k + e))) (j2 : ∀ i, q ≤ i → i < n2 → O.kle (kx key arr (k + e)) (kx key arr (k + (e + 1) + i)))
    {Q : Bool → SortSt → Prop} (h : ∀ st', (arrOf st').Perm a₀ → failedOf st' = none → (pendingOf st').size = 1 → Up O key (arrOf st') 0 (arrOf st').size → Q true st') : wpS (model prog w) A E s (mat3 arr k (e + 1) (k + (e + 1)) q) Q st := by
  unfold mat3
  have b2 : ∀ i, k + (e + 1) + q ≤ i → i < k + (e + 1) + n2 → O.kle (kx key arr (k + e)) (kx key arr i) := fun i q1 q2 => by
    obtain ⟨i, rfl⟩ := Nat.exists_eq_add_of_le q1
    rw [Nat.add_assoc]
    exact j2 _ (Nat.le_add_right _ _) (Nat.lt_of_add_lt_add_left (by rw [← Nat.add_assoc]; exact q2))
  cases q with
  | zero =>
    rw [if_pos (beq_self_eq_true 0)]
    refine wpS_pure (h st (H.arr ▸ H.perm) H.failed H.pend ?_)
    rw [H.arr, hz]
    exact two_up u1 u2 fun i j q1 q2 q3 => KeyOrd.kle_trans (u1.at_last q1) (b2 j q2 q3)
  | succ f =>
    rw [if_neg (by simp)]
    have le1 : k + (e + 1) ≤ arr.size := by rw [hz]; exact Nat.le_add_right _ _
    have le2 : k + (e + 1) + (f + 1) ≤ arr.size := by rw [hz]; exact Nat.add_le_add_left hq _
    have sx : (arr.extract k (k + (e + 1))).size = e + 1 := by rw [Array.size_extract, Nat.min_eq_left le1, Nat.add_sub_cancel_left]
    have sy : (arr.extract (k + (e + 1)) (k + (e + 1) + (f + 1))).size = f + 1 := by rw [Array.size_extract, Nat.min_eq_left le2, Nat.add_sub_cancel_left]
    have ax : ∀ i, i < e + 1 → kx key (arr.extract k (k + (e + 1))) i = kx key arr (k + i) := fun i hi => kx_ext le1 (Nat.add_lt_add_left hi k)
    have ay : ∀ i, i < f + 1 → kx key (arr.extract (k + (e + 1)) (k + (e + 1) + (f + 1))) i = kx key arr (k + (e + 1) + i) := fun i hi => kx_ext le2 (Nat.add_lt_add_left hi _)
    have sub : ∀ i j, ∀ x ∈ (arr.extract i j).toList, x ∈ a₀.toList := fun i j x hx => (Array.perm_iff_toList_perm.mp H.perm).mem_iff.mp (by
      rw [Array.toList_extract, List.extract_eq_take_drop] at hx
      exact List.mem_of_mem_drop (List.mem_of_mem_take hx))
    have G : Mg prog w A E s O key kd a₀ (arr.extract k (k + (e + 1))) (arr.extract (k + (e + 1)) (k + (e + 1) + (f + 1))) :=
      ⟨C, sub _ _, sub _ _, fun i j hij hj => by
        rw [sx] at hj
        rw [Nat.zero_add, Nat.zero_add, ax _ (Nat.lt_of_le_of_lt hij hj), ax _ hj]
        have := u1 (k + i) (k + j) (Nat.add_le_add_left hij k) (Nat.add_lt_add_left hj k)
        rwa [Nat.zero_add, Nat.zero_add] at this, fun i j hij hj => by
        rw [sy] at hj
        rw [Nat.zero_add, Nat.zero_add, ay _ (Nat.lt_of_le_of_lt hij hj), ay _ hj]
        exact u2 i j hij (Nat.lt_of_lt_of_le hj hq)⟩
    have fin : ∀ (o : Array Keyed) st2, Sm st st2 → Rs O key ((arr.extract k (k + (e + 1))).toList ++ (arr.extract (k + (e + 1)) (k + (e + 1) + (f + 1))).toList) o.toList → wpS (model prog w) A E s (mat4 k o) Q st2 := fun o st2 hm ho => by
      have r := cut4 hz hq u1 u2 g1 (fun i q1 q2 => u2.at_first q1 q2) (fun i _ q2 => u1.at_last q2) b2 ho
      unfold mat4
      refine wpS_bind (wpS_modify (wpS_bind (wpS_get (wpS_pure ?_))))
      have f2 : failedOf st2 = none := hm.2.2.2.trans H.failed
      show Q (failedOf st2).isNone _
      rw [f2, hm.2.1.trans H.arr]
      exact h _ ((Array.perm_iff_toList_perm.mpr r.1).trans H.perm) f2 (by show (pendingOf st2).size = 1; rw [hm.2.2.1]; exact H.pend) (pairs_up r.2)
    have y0 : ∀ i, i < e + 1 → O.kle (kx key (arr.extract (k + (e + 1)) (k + (e + 1) + (f + 1))) 0) (kx key (arr.extract k (k + (e + 1))) i) := fun i hi => by
      rw [ay 0 (Nat.succ_pos f), ax i hi]
      exact KeyOrd.kle_of_klt (g2 _ (Nat.le_add_right _ _) (Nat.add_lt_add_left hi k))
    have xl : ∀ i, i < f + 1 → O.kle (kx key (arr.extract (k + (e + 1)) (k + (e + 1) + (f + 1))) i) (kx key (arr.extract k (k + (e + 1))) e) := fun i hi => by
      rw [ay i hi, ax e (Nat.lt_succ_self e)]
      exact KeyOrd.kle_of_klt (j1 i hi)
    split
    · exact wpS_bind (mlo_ok G ⟨sx, by rw [sy]; exact xl⟩ H.kind (by rw [sy]; exact Nat.succ_pos f) (y0 0 (Nat.succ_pos e)) fun o st2 hm ho => fin o st2 hm ho)
    · exact wpS_bind (mhi_ok G (by rw [sx]; exact y0) H.kind sx sy (xl f (Nat.lt_succ_self f)) fun o st2 hm ho => fin o st2 hm ho)
theorem mat_ok (C : Cmps prog w A E s O key kd a₀) {st : SortSt} {n1 n2 pw : Nat} (hp : (arrOf st).Perm a₀) (hk : kindOf st = kd) (hf : failedOf st = none) (hpe : pendingOf st = #[(0, n1, pw), (n1, n2, 0)]) (h1 : 1 ≤ n1) (h2 : 1 ≤ n2) (hs : n1 + n2 = a₀.size)
    (u1 : Up O key (arrOf st) 0 n1) (u2 : Up O key (arrOf st) n1 n2) {Q : Bool → SortSt → Prop}
    (h : ∀ st', (arrOf st').Perm a₀ → failedOf st' = none → (pendingOf st').size = 1 → Up O key (arrOf st') 0 (arrOf st').size → Q true st') : wpS (model prog w) A E s (mergeAt' 0) Q st := by
  have hz : (arrOf st).size = n1 + n2 := hp.size_eq.trans hs.symm
  have mem : ∀ x ∈ (arrOf st).toList, x ∈ a₀.toList := fun x hx => (Array.perm_iff_toList_perm.mp hp).mem_iff.mp hx
  rw [mat_eq]
  refine wpS_bind (wpS_get ?_)
  rw [hpe]
  have e0 : (#[(0, n1, pw), (n1, n2, 0)] : Array (Nat × Nat × Nat))[0]? = some (0, n1, pw) := rfl
  have e1 : (#[(0, n1, pw), (n1, n2, 0)] : Array (Nat × Nat × Nat))[0 + 1]? = some (n1, n2, 0) := rfl
  rw [e0, e1]
  refine wpS_bind (wpS_modify ?_)
  obtain ⟨st1, hst1⟩ : ∃ st1, st1 = setPending st ((#[(0, n1, pw), (n1, n2, 0)].setIfInBounds 0 (0, n1 + n2, pw)).eraseIdxIfInBounds (0 + 1)) := ⟨_, rfl⟩
  rw [← hst1]
  have H : M2 kd a₀ (arrOf st) st1 := ⟨hp, by rw [hst1], by rw [hst1]; exact hk, by rw [hst1]; exact hf, by
    rw [hst1]
    show ((#[(0, n1, pw), (n1, n2, 0)].setIfInBounds 0 (0, n1 + n2, pw)).eraseIdxIfInBounds 1).size = 1
    simp⟩
  have hlt : n1 < (arrOf st).size := by rw [hz]; exact Nat.lt_add_of_pos_right h2
  unfold mat1
  refine wpS_bind (elem_ok (getElem?_pos _ n1 hlt) (wpS_bind (gallop_ok (bey_more C H.kind (mem _ (by simp)) mem (by rw [Nat.zero_add]; exact Nat.le_of_lt hlt) u1) h1 fun k hkn g1 g2 => ?_)))
  rw [← kx_at (key := key) hlt] at g1 g2
  simp only [Nat.zero_add] at g1 g2
  have g1' : ∀ i, i < k → O.kle (kx key (arrOf st) i) (kx key (arrOf st) n1) := fun i hi => nb_t (g1 i hi)
  have g2' : ∀ i, k ≤ i → i < n1 → O.klt (kx key (arrOf st) n1) (kx key (arrOf st) i) := fun i q1 q2 => nb_f (g2 i q1 q2)
  clear g1 g2
  obtain ⟨d, rfl⟩ := Nat.exists_eq_add_of_le hkn
  dsimp only
  rw [Nat.zero_add, Nat.add_sub_cancel_left]
  unfold mat2
  cases d with
  | zero =>
    rw [if_pos (beq_self_eq_true 0)]
    refine wpS_pure (h st1 (H.arr ▸ hp) H.failed H.pend ?_)
    rw [H.arr, hz]
    exact two_up u1 u2 fun i j q1 q2 q3 => KeyOrd.kle_trans (g1' i q1) (u2.at_first q2 q3)
  | succ e =>
    rw [if_neg (by simp)]
    have hle : k + e < (arrOf st).size := Nat.lt_of_le_of_lt (Nat.le_succ _) hlt
    refine wpS_bind (elem_ok (getElem?_pos _ (k + e) hle) (wpS_bind (gallop_ok (bey_less C H.kind (mem _ (by simp)) mem (Nat.le_of_eq hz.symm) u2) (Nat.sub_lt h2 Nat.one_pos) fun q hqn j1 j2 => ?_)))
    rw [← kx_at (key := key) hle] at j1 j2
    exact mat3_ok C H hz hqn u1 u2 g1' g2' j1 j2 h
end
end Mine

namespace Mine

noncomputable def rnP (lo n : Nat) : StateT SortSt Sem (ForInStep (Option Unit × Nat)) := do
  modify fun s => setPending s ((pendingOf s).push (lo, n, 0))
  pure (ForInStep.yield (none, lo + n))
noncomputable def rnL (pw : Nat) : StateT SortSt Sem (ForInStep (Option Unit × Unit)) := do
  let st ← get
  match (if (pendingOf st).size > 1 then (pendingOf st)[(pendingOf st).size - 2]? else none) with
  | some (_, _, older) =>
    if older ≤ pw then pure (ForInStep.done (none, ()))
    else do
      let ok ← mergeAt' ((pendingOf st).size - 2)
      if (!ok) = true then pure (ForInStep.done (some (), ())) else pure (ForInStep.yield (none, ()))
  | _ => pure (ForInStep.done (none, ()))
noncomputable def rnK (size lo n : Nat) : StateT SortSt Sem (ForInStep (Option Unit × Nat)) := do
  let st ← get
  match (pendingOf st).back? with
  | some (s1, n1, _) => do
    let c ← (forIn [0:size] ((none, ()) : Option Unit × Unit) fun _ _ => rnL (power' size (2 * s1 + n1) (2 * s1 + n1 + n1 + n) size))
    match c.1 with
    | some _ => pure (ForInStep.done (some (), lo))
    | none => do
      modify fun s => setPending s ((pendingOf s).modify ((pendingOf s).size - 1) fun (st, len, _) => (st, len, power' size (2 * s1 + n1) (2 * s1 + n1 + n1 + n) size))
      rnP lo n
  | _ => rnP lo n
noncomputable def rnB (size m lo : Nat) : StateT SortSt Sem (ForInStep (Option Unit × Nat)) :=
  if lo ≥ size then pure (ForInStep.done (none, lo))
  else do
    let r ← countRun' lo (size - lo)
    match r with
    | some found =>
      if found < m then do
        liftM (rule "list.sort.binary-insertion")
        let ok ← binarySort' lo (min (size - lo) m) found
        if (!ok) = true then pure (ForInStep.done (some (), lo)) else rnK size lo (min (size - lo) m)
      else rnK size lo found
    | _ => pure (ForInStep.done (some (), lo))
noncomputable def rnE : StateT SortSt Sem (ForInStep (Option Unit × Unit)) := do
  let st ← get
  if (pendingOf st).size ≤ 1 then pure (ForInStep.done (none, ()))
  else do
    let ok ← mergeAt' (if (Option.any (fun x => decide (x < ((pendingOf st)[(pendingOf st).size - 2 + 1]?.elim 0 fun x => x.2.1))) (if (pendingOf st).size - 2 > 0 then Option.map (fun x => x.2.1) (pendingOf st)[(pendingOf st).size - 2 - 1]? else none)) = true then (pendingOf st).size - 2 - 1 else (pendingOf st).size - 2)
    if (!ok) = true then pure (ForInStep.done (some (), ())) else pure (ForInStep.yield (none, ()))
theorem srt_eq : sortRuns' = (do
    let st ← get
    let c ← (forIn [0:(arrOf st).size] ((none, 0) : Option Unit × Nat) fun _ c => rnB (arrOf st).size (minRun' (arrOf st).size (arrOf st).size 0) c.2)
    match c.1 with
    | some _ => pure ()
    | none => do
      let c ← (forIn [0:(arrOf st).size] ((none, ()) : Option Unit × Unit) fun _ _ => rnE)
      match c.1 with
      | some _ => pure ()
      | none => pure ()) := by kernel_rfl
section
variable {prog : Program} {w : World} {A : Around} {E : Value → Shared → Prop} {s : Shared} {O : KeyOrd} {key : Value → O.α} {kd : SortKind} {a₀ b : Array Keyed}
theorem min_run {n : Nat} (h2 : 2 ≤ n) (h : n < 128) : minRun' n n 0 ≤ n ∧ n ≤ minRun' n n 0 + minRun' n n 0 := by
  obtain ⟨f, hf⟩ : ∃ f, n = f + 1 + 1 := ⟨n - 2, by omega⟩
  have e : minRun' n n 0 = if n < 64 then n else if n / 2 < 64 then n / 2 + max 0 (n % 2) else minRun' f (n / 2 / 2) (max (max 0 (n % 2)) (n / 2 % 2)) := by
    conv => lhs; rw [hf]
    rw [minRun'_succ, minRun'_succ, ← hf]
  rw [e]
  clear e hf
  split
  · exact ⟨Nat.le_refl _, Nat.le_add_right _ _⟩
  · rw [if_pos (by omega), Nat.zero_max]
    omega
noncomputable def One (O : KeyOrd) (key : Value → O.α) (kd : SortKind) (a₀ : Array Keyed) (n : Nat) (st : SortSt) : Prop :=
  (arrOf st).Perm a₀ ∧ kindOf st = kd ∧ failedOf st = none ∧ pendingOf st = #[(0, n, 0)] ∧ Up O key (arrOf st) 0 n
noncomputable def Two (O : KeyOrd) (key : Value → O.α) (kd : SortKind) (a₀ : Array Keyed) (st : SortSt) : Prop :=
  ∃ n1 n2 pw, (arrOf st).Perm a₀ ∧ kindOf st = kd ∧ failedOf st = none ∧ pendingOf st = #[(0, n1, pw), (n1, n2, 0)] ∧ 1 ≤ n1 ∧ 1 ≤ n2 ∧ n1 + n2 = a₀.size ∧ Up O key (arrOf st) 0 n1 ∧ Up O key (arrOf st) n1 n2
noncomputable def Dne (O : KeyOrd) (key : Value → O.α) (a₀ : Array Keyed) (st : SortSt) : Prop :=
  (arrOf st).Perm a₀ ∧ failedOf st = none ∧ (pendingOf st).size = 1 ∧ Up O key (arrOf st) 0 a₀.size
theorem rnB_ok (C : Cmps prog w A E s O key kd a₀) {pn : Array (Nat × Nat × Nat)} {lo rest m : Nat} {st : SortSt} (B : SB a₀ kd pn b lo st) (hz : a₀.size = lo + rest) (hr : 1 ≤ rest) {Q : ForInStep (Option Unit × Nat) → SortSt → Prop}
    (h : ∀ n st', SB a₀ kd pn b lo st' → Up O key (arrOf st') lo n → n ≤ rest → (m ≤ n ∨ n = rest) → wpS (model prog w) A E s (rnK a₀.size lo n) Q st') : wpS (model prog w) A E s (rnB a₀.size m lo) Q st := by
  unfold rnB
  rw [if_neg (Nat.not_le_of_lt (by rw [hz]; exact Nat.lt_add_of_pos_right hr)), show a₀.size - lo = rest by rw [hz, Nat.add_sub_cancel_left]]
  refine wpS_bind (run_ok C B (Nat.le_of_eq hz.symm) hr fun k st2 B2 hk1 hk2 hu => ?_)
  dsimp only
  by_cases hlt : k < m
  · rw [if_pos hlt]
    refine wpS_bind (wpS_lift (wpAny_rule ⟨rfl, ?_⟩))
    refine wpS_bind (ins_ok C B2 (Nat.le_trans (Nat.add_le_add_left (Nat.min_le_left rest m) lo) (Nat.le_of_eq hz.symm)) (Nat.le_min.mpr ⟨hk2, Nat.le_of_lt hlt⟩) hu fun st3 B3 hu3 => ?_)
    exact h _ st3 B3 hu3 (Nat.min_le_left _ _) ((Nat.le_total rest m).elim (fun z => .inr (Nat.min_eq_left z)) fun z => .inl (Nat.le_of_eq (Nat.min_eq_right z).symm))
  · rw [if_neg hlt]
    exact h k st2 B2 hu hk2 (.inl (Nat.le_of_not_lt hlt))
theorem runs_ok (C : Cmps prog w A E s O key kd a₀) {st : SortSt} {Q : Unit → SortSt → Prop} (B : SB a₀ kd #[] b 0 st) (h2 : 2 ≤ a₀.size) (h128 : a₀.size < 128)
    (h : ∀ st', (arrOf st').Perm a₀ → failedOf st' = none → Up O key (arrOf st') 0 a₀.size → Q () st') : wpS (model prog w) A E s sortRuns' Q st := by
  rw [srt_eq]
  refine wpS_bind (wpS_get ?_)
  obtain ⟨m1, m2⟩ := min_run h2 h128
  rw [B.size]
  generalize minRun' a₀.size a₀.size 0 = m at m1 m2
  have hpos : 1 ≤ a₀.size := Nat.le_of_succ_le h2
  obtain ⟨P, hP⟩ : ∃ P : Nat → Option Unit × Nat → SortSt → Prop, ∀ x c st', P x c st' ↔ c.1 = none ∧ ((x = 0 ∧ c.2 = 0 ∧ SB a₀ kd #[] b 0 st') ∨ (x = 1 ∧ m ≤ c.2 ∧ c.2 < a₀.size ∧ One O key kd a₀ c.2 st') ∨ (c.2 = a₀.size ∧ (One O key kd a₀ a₀.size st' ∨ Two O key kd a₀ st'))) := ⟨_, fun _ _ _ => Iff.rfl⟩
  refine wpS_bind (wpS_mono (wpS_forRange (I := P) (Q := fun c st' => c.1 = none ∧ (One O key kd a₀ a₀.size st' ∨ Two O key kd a₀ st')) (fun x c st' _ hx hI => ?_) (fun c st' hI => ?_) ((hP _ _ _).mpr ⟨rfl, .inl ⟨rfl, rfl, B⟩⟩)) fun c st' hI => ?_)
  · obtain ⟨c1, lo⟩ := c
    obtain ⟨hc, hI⟩ := (hP _ _ _).mp hI
    rcases hI with ⟨rfl, rfl, B'⟩ | ⟨rfl, hm, hn, o⟩ | ⟨hl, hd⟩
    · refine rnB_ok C B' (Nat.zero_add _).symm hpos fun n st2 B2 hu q1 q2 => ?_
      have hb : (pendingOf st2).back? = none := by rw [B2.pend]; rfl
      unfold rnK
      refine wpS_bind (wpS_get ?_)
      rw [hb]
      unfold rnP
      refine wpS_bind (wpS_modify (wpS_pure ((hP _ _ _).mpr ⟨rfl, ?_⟩)))
      have o : One O key kd a₀ n (setPending st2 ((pendingOf st2).push (0, n, 0))) := ⟨B2.perm, B2.kind, B2.failed, by show (pendingOf st2).push _ = _; rw [B2.pend]; rfl, hu⟩
      show (0 + 1 = 0 ∧ _) ∨ (0 + 1 = 1 ∧ m ≤ 0 + n ∧ 0 + n < a₀.size ∧ One O key kd a₀ (0 + n) _) ∨ (0 + n = a₀.size ∧ _)
      rw [Nat.zero_add n]
      rcases Nat.lt_or_eq_of_le q1 with z | rfl
      · exact .inr (.inl ⟨rfl, q2.resolve_right (Nat.ne_of_lt z), z, o⟩)
      · exact .inr (.inr ⟨rfl, .inl o⟩)
    · obtain ⟨rest, hz⟩ := Nat.exists_eq_add_of_le (Nat.le_of_lt hn)
      have hr : 1 ≤ rest := Nat.pos_of_ne_zero fun z => by
        subst z
        exact Nat.lt_irrefl _ (Nat.lt_of_lt_of_eq hn hz)
      have B' : SB a₀ kd #[(0, lo, 0)] (arrOf st') lo st' := ⟨o.1, o.2.1, o.2.2.1, o.2.2.2.1, fun _ _ => rfl⟩
      refine rnB_ok C B' hz hr fun n st2 B2 hu q1 q2 => ?_
      have hn : n = rest := q2.elim (fun z => Nat.le_antisymm q1 (Nat.le_of_add_le_add_left (a := lo) (by
        rw [← hz]
        exact Nat.le_trans m2 (Nat.add_le_add hm z)))) id
      have hb : (pendingOf st2).back? = some (0, lo, 0) := by rw [B2.pend]; rfl
      unfold rnK
      refine wpS_bind (wpS_get ?_)
      rw [hb]
      refine wpS_bind (wpS_mono (wpS_forRange (I := fun _ c st'' => st'' = st2 ∧ c.1 = none) (Q := fun c st'' => st'' = st2 ∧ c.1 = none) (fun x c st'' _ _ hJ => ?_) (fun _ _ hh => hh) ⟨rfl, rfl⟩) fun c st'' hJ => ?_)
      · obtain ⟨rfl, hc⟩ := hJ
        unfold rnL
        refine wpS_bind (wpS_get ?_)
        rw [B2.pend]
        exact wpS_pure ⟨rfl, rfl⟩
      · obtain ⟨rfl, hc⟩ := hJ
        rw [hc]
        unfold rnP
        have hl : ∀ i, i < lo → kx key (arrOf st'') i = kx key (arrOf st') i := fun i hi => kx_congr (B2.low i hi)
        have u0 : Up O key (arrOf st'') 0 lo := fun i j hij hj => by
          have := o.2.2.2.2 i j hij hj
          rw [Nat.zero_add, Nat.zero_add] at this ⊢
          rw [hl i (Nat.lt_of_le_of_lt hij hj), hl j hj]; exact this
        refine wpS_bind (wpS_modify (wpS_bind (wpS_modify (wpS_pure ((hP _ _ _).mpr ⟨rfl, .inr (.inr ⟨by rw [hz, hn], .inr ⟨lo, n, _, B2.perm, B2.kind, B2.failed, (by
          show ((pendingOf st'').modify ((pendingOf st'').size - 1) _).push _ = _
          rw [B2.pend]; rfl), Nat.pos_of_ne_zero (fun z => ?_), by rw [hn]; exact hr, by rw [hz, hn], u0, hu⟩⟩)⟩)))))
        rw [z] at hm
        rw [Nat.le_zero.mp hm] at m2
        exact absurd (Nat.le_trans hpos m2) (Nat.not_succ_le_zero 0)
    · unfold rnB
      dsimp only
      rw [if_pos (Nat.le_of_eq hl.symm)]
      exact wpS_pure ⟨rfl, hd⟩
  · obtain ⟨hc, hI⟩ := (hP _ _ _).mp hI
    refine ⟨hc, ?_⟩
    rw [Nat.zero_max] at hI
    rcases hI with ⟨hx, _⟩ | ⟨hx, _⟩ | ⟨_, hd⟩
    · exact absurd hx (Nat.ne_of_gt hpos)
    · exact absurd hx (Nat.ne_of_gt h2)
    · exact hd
  · obtain ⟨hc, hd⟩ := hI
    rw [hc]
    refine wpS_bind (wpS_mono (wpS_forRange (I := fun x c st'' => c.1 = none ∧ (Dne O key a₀ st'' ∨ (x = 0 ∧ Two O key kd a₀ st''))) (Q := fun c st'' => c.1 = none ∧ Dne O key a₀ st'') (fun x c st'' _ _ hJ => ?_) (fun c st'' hJ => ⟨hJ.1, hJ.2.resolve_right fun q => absurd q.1 (Nat.ne_of_gt (by rw [Nat.zero_max]; exact hpos))⟩) ⟨rfl, ?_⟩) fun c st'' hJ => ?_)
    · obtain ⟨_, hJ⟩ := hJ
      unfold rnE
      refine wpS_bind (wpS_get ?_)
      rcases hJ with hJ | ⟨rfl, n1, n2, pw, t1, t2, t3, t4, t5, t6, t7, t8, t9⟩
      · rw [if_pos (Nat.le_of_eq hJ.2.2.1)]
        exact wpS_pure ⟨rfl, hJ⟩
      · rw [t4]
        show wpS _ _ _ _ (do
          let r ← mergeAt' 0
          if (!r) = true then pure (ForInStep.done (some (), ())) else pure (ForInStep.yield (none, ()))) _ _
        refine wpS_bind (mat_ok C t1 t2 t3 t4 t5 t6 t7 t8 t9 fun st3 d1 d2 d3 d4 => ?_)
        exact wpS_pure ⟨rfl, .inl ⟨d1, d2, d3, d1.size_eq ▸ d4⟩⟩
    · rcases hd with ⟨d1, d2, d3, d4, d5⟩ | hd
      · exact .inl ⟨d1, d3, by rw [d4]; rfl, d5⟩
      · exact .inr ⟨rfl, hd⟩
    · obtain ⟨hc, d1, d2, d3, d4⟩ := hJ
      rw [hc]
      exact wpS_pure (h _ d1 d2 d4)
end

section
variable {prog : Program} {w : World} {A : Around} {E : Value → Shared → Prop} {s : Shared} {O : KeyOrd} {key : Value → O.α} {kd : SortKind}
theorem sort_tree {a : Addr} {vs : List Value} {n : Nat} {P : Fin → Shared → Prop} (ho : s.heap.get? a = some (seqObj "list" vs.toArray n)) (h64 : vs.length < 128)
    (hk : ∀ s' : Shared, (∀ b o, b ≠ a → s.heap.get? b = some o → s'.heap.get? b = some o) → 2 ≤ vs.length → ∀ (Q : SortKind → Shared → Prop) (E : Value → Shared → Prop), Q kd s' → wpAny (model prog w) A (keyKind' vs.toArray) Q E s')
    (hC : ∀ s' : Shared, (∀ b o, b ≠ a → s.heap.get? b = some o → s'.heap.get? b = some o) → Cmps prog w A E s' O key kd (pairsOf vs))
    (h : ∀ st' : SortSt, (arrOf st').Perm (pairsOf vs) → Up O key (arrOf st') 0 vs.length → P (.done (.ret .none)) { s with heap := sortedHeap s.heap a vs ((arrOf st').map (·.2)) }) :
    wpAny (model prog w) A (Builtin.«list.sort» ⟨[.ref a], []⟩) P E s := by
  rw [list_sort_plain]
  have ha : a < s.heap.objs.size := Heap.lt_size ho
  refine wpAny_bind (listItems_at ho rfl ?_)
  refine wpAny_bind (listUpdate_at ho rfl ?_)
  obtain ⟨e1, ho1⟩ : ∃ e1, (s.heap.update a (Obj.mapSeq fun _ => #[])).get? a = some (seqObj "list" #[] e1) := ⟨_, get?_update_seq ho (fun _ => #[])⟩
  refine wpAny_bind (seqEpoch_at ho1 rfl ?_)
  refine wpAny_bind (wpAny_newTuple ?_)
  refine wpAny_bind (wpAny_newList ?_)
  refine wpAny_holding ?_
  have kp : ∀ b o, b ≠ a → s.heap.get? b = some o → (((s.heap.update a (Obj.mapSeq fun _ => #[])).push (seqObj "tuple" vs.toArray 0)).push (seqObj "list" #[] 0)).get? b = some o := fun b o hb e =>
    Heap.get?_push_of_some _ (Heap.get?_push_of_some _ (by rw [Heap.get?_update_ne _ _ _ _ hb]; exact e))
  have ho6 : (((s.heap.update a (Obj.mapSeq fun _ => #[])).push (seqObj "tuple" vs.toArray 0)).push (seqObj "list" #[] 0)).get? a = some (seqObj "list" #[] e1) := Heap.get?_push_of_some _ (Heap.get?_push_of_some _ ho1)
  show wpAny (model prog w) A _ P E { s with heap := ((s.heap.update a (Obj.mapSeq fun _ => #[])).push (seqObj "tuple" vs.toArray 0)).push (seqObj "list" #[] 0) }
  dsimp only
  have hsz : vs.toArray.size = vs.length := by simp
  have hps := pairsOf_size vs
  by_cases h2 : vs.toArray.size < 2
  · rw [if_pos h2, if_pos h2]
    refine wpAny_bind (wpAny_pure ?_)
    rw [StateT.run_pure]
    refine wpAny_bind (wpAny_pure ?_)
    dsimp only
    refine wpAny_bind (seqEpoch_at ho6 rfl ?_)
    refine wpAny_bind (listUpdate_at ho6 rfl ?_ (hsz2 := by rw [Array.size_map]; show (pairsOf vs).size ≤ _; rw [hps, sizeLine_eq]; omega))
    simp only [bne_self_eq_false, Bool.false_eq_true, if_false]
    refine wpAny_pure (h (SortSt.mk' general' (vs.toArray.zip vs.toArray) #[] 7 none) (Array.Perm.refl _) ?_)
    intro i j hij hj
    obtain rfl : i = j := by omega
    exact KeyOrd.kle_refl _
  · rw [if_neg h2, if_neg h2]
    refine wpAny_bind (hk _ kp (by omega) _ _ ?_)
    refine wpAny_bind (wpAny_mono (runs_ok (hC _ kp) (b := pairsOf vs) (st := SortSt.mk' kd (vs.toArray.zip vs.toArray) #[] 7 none)
      (Q := fun _ st' => (arrOf st').Perm (pairsOf vs) ∧ failedOf st' = none ∧ Up O key (arrOf st') 0 (pairsOf vs).size)
      ⟨Array.Perm.refl _, rfl, rfl, rfl, fun k hk => absurd hk (Nat.not_lt_zero k)⟩ (by omega) (by omega) fun st' a1 a2 a3 => ⟨a1, a2, a3⟩) ?_ fun _ _ e => e)
    rintro ⟨⟨⟩, st'⟩ s' ⟨rfl, hp, hf, hs⟩
    dsimp only
    refine wpAny_bind (seqEpoch_at ho6 rfl ?_)
    refine wpAny_bind (listUpdate_at ho6 rfl ?_ (hsz2 := by refine Nat.le_trans (Nat.le_of_eq ((Array.size_map ..).trans (hp.size_eq.trans hps))) ?_; rw [sizeLine_eq]; omega))
    rw [hf]
    simp only [bne_self_eq_false, Bool.false_eq_true, if_false]
    exact wpAny_pure (h st' hp (by rw [← hps]; exact hs))
theorem sorted_call {l : Addr} {vs : List Value} {Q : Value → Shared → Prop} (hl : s.heap.IsList l vs.toArray) (h64 : vs.length < 128)
    (hk : ∀ s' : Shared, (∀ b o, s.heap.get? b = some o → s'.heap.get? b = some o) → 2 ≤ vs.length → ∀ (Q : SortKind → Shared → Prop) (E : Value → Shared → Prop), Q kd s' → wpAny (model prog w) A.in1.in1 (keyKind' vs.toArray) Q E s')
    (hC : ∀ (s' : Shared) (E : Value → Shared → Prop), (∀ b o, s.heap.get? b = some o → s'.heap.get? b = some o) → Cmps prog w A.in1.in1 E s' O key kd (pairsOf vs))
    (h : ∀ st' : SortSt, (arrOf st').Perm (pairsOf vs) → Up O key (arrOf st') 0 vs.length → Q (.ref (s.heap.objs.size + 1)) { s with heap := sortedAll s.heap vs ((arrOf st').map (·.2)) }) :
    wpAny (model prog w) A (call (.builtin "sorted") [.ref l]) Q E s := by
  refine Calls.call_function_entry kind_sorted plain_sorted entry_sorted (args_sorted1 _) ?_
  unfold Builtin.«sorted»
  refine wpAny_bind (m := checkCount "sorted" 1 1 _) (wpAny_pure ?_)
  refine wpAny_bind (collect_list hl ?_)
  refine wpAny_bind (wpAny_newList ?_)
  have hsz : ((s.heap.push (seqObj "list" #[] 0)).update s.heap.objs.size (Obj.mapSeq (· ++ vs.toArray))).objs.size = s.heap.objs.size + 1 := by rw [Heap.size_update, size_push']
  have kp : ∀ b o, s.heap.get? b = some o → (((s.heap.push (seqObj "list" #[] 0)).update s.heap.objs.size (Obj.mapSeq (· ++ vs.toArray))).push (seqObj "list" vs.toArray 0)).get? b = some o := fun b o e =>
    Heap.get?_push_of_some _ (by rw [Heap.get?_update_ne _ _ _ _ (Nat.ne_of_lt (Heap.lt_size e))]; exact Heap.get?_push_of_some _ e)
  have hoL : (((s.heap.push (seqObj "list" #[] 0)).update s.heap.objs.size (Obj.mapSeq (· ++ vs.toArray))).push (seqObj "list" vs.toArray 0)).get? (s.heap.objs.size + 1) = some (seqObj "list" vs.toArray 0) := by
    rw [← hsz]; exact Heap.get?_push_size _ rfl
  show wpAny _ _ _ _ _ { s with heap := ((s.heap.push (seqObj "list" #[] 0)).update s.heap.objs.size (Obj.mapSeq (· ++ vs.toArray))).push (seqObj "list" vs.toArray 0) }
  rw [hsz]
  have old : ∀ b o, s.heap.get? b = some o → b ≠ s.heap.objs.size + 1 := fun b o e => Nat.ne_of_lt (Nat.lt_succ_of_lt (Heap.lt_size e))
  refine wpAny_bind (wpAny_holding (wpAny_call_entry slot_list_sort ⟨_, hoL, rfl⟩ entry_list_sort (sort_tree hoL h64 (fun s' k => hk s' fun b o e => k b o (old b o e) (kp b o e)) (fun s' k => hC s' _ fun b o e => k b o (old b o e) (kp b o e)) fun st' a1 a2 => ⟨_, rfl, ?_⟩) (args_list_sort _)))
  exact wpAny_pure ⟨_, rfl, h st' a1 a2⟩
end
end Mine

namespace Mine

noncomputable def lexB (a b : Int × Int) : Bool := decide (a.1 < b.1 ∨ (a.1 = b.1 ∧ a.2 < b.2))
theorem lexB_iff {a b : Int × Int} : lexB a b = true ↔ a.1 < b.1 ∨ (a.1 = b.1 ∧ a.2 < b.2) := decide_eq_true_iff
theorem lexB_not {a b : Int × Int} : lexB a b = false ↔ ¬(a.1 < b.1 ∨ (a.1 = b.1 ∧ a.2 < b.2)) := decide_eq_false_iff_not
theorem lexB_irrefl (a : Int × Int) : lexB a a = false := lexB_not.mpr fun h => h.elim (Int.lt_irrefl _) fun z => Int.lt_irrefl _ z.2
theorem lexB_trans (a b c : Int × Int) (h1 : lexB a b = true) (h2 : lexB b c = true) : lexB a c = true := by
  rw [lexB_iff] at *
  rcases h1 with h1 | ⟨e1, h1⟩
  · exact .inl (h2.elim (Int.lt_trans h1) fun z => z.1 ▸ h1)
  · rw [e1]
    exact h2.imp id fun z => ⟨z.1, Int.lt_trans h1 z.2⟩
theorem lexB_negTrans (a b c : Int × Int) (h : lexB a c = true) : lexB a b = true ∨ lexB b c = true := by
  rw [lexB_iff] at h
  rw [lexB_iff, lexB_iff]
  rcases Int.lt_trichotomy a.1 b.1 with q | q | q
  · exact .inl (.inl q)
  · rcases h with h | ⟨e, h⟩
    · exact .inr (.inl (q ▸ h))
    · rcases Int.lt_or_le a.2 b.2 with p | p
      · exact .inl (.inr ⟨q, p⟩)
      · exact .inr (.inr ⟨q ▸ e, Int.lt_of_le_of_lt p h⟩)
  · exact .inr (.inl (h.elim (Int.lt_trans q) fun z => z.1 ▸ q))
theorem lexB_total (a b : Int × Int) (h1 : lexB a b = false) (h2 : lexB b a = false) : a = b := by
  rw [lexB_not] at h1 h2
  have e : a.1 = b.1 := Int.le_antisymm (Int.not_lt.mp fun z => h2 (.inl z)) (Int.not_lt.mp fun z => h1 (.inl z))
  exact Prod.ext e (Int.le_antisymm (Int.not_lt.mp fun z => h2 (.inr ⟨e.symm, z⟩)) (Int.not_lt.mp fun z => h1 (.inr ⟨e, z⟩)))
noncomputable abbrev lexOrd : KeyOrd where
  α := Int × Int
  blt := lexB
  irrefl := lexB_irrefl
  trans := lexB_trans
  negTrans := lexB_negTrans
  total := lexB_total
noncomputable def lexLe (a b : Int × Int) : Bool := !lexB b a
noncomputable def sortP (ps : List (Int × Int)) : List (Int × Int) := ps.mergeSort lexLe
theorem lexLe_tot (a b : Int × Int) : (lexLe a b || lexLe b a) = true := by
  unfold lexLe
  cases h : lexB b a with
  | false => rfl
  | true =>
    cases q : lexB a b with
    | false => rfl
    | true => have := lexB_trans a b a q h; rw [lexB_irrefl] at this; cases this
theorem lexLe_trans (a b c : Int × Int) (h1 : lexLe a b = true) (h2 : lexLe b c = true) : lexLe a c = true := by
  unfold lexLe at *
  rw [Bool.not_eq_true'] at *
  cases q : lexB c a with
  | false => rfl
  | true =>
    rcases lexB_negTrans c b a q with z | z
    · rw [z] at h2; cases h2
    · rw [z] at h1; cases h1
theorem sortP_is {ps qs : List (Int × Int)} (h1 : qs.Perm ps) (h2 : qs.Pairwise (fun a b => lexLe a b = true)) : qs = sortP ps :=
  List.Perm.eq_of_pairwise (le := fun a b => lexLe a b = true) (fun a b _ _ h1 h2 => by
    unfold lexLe at h1 h2
    rw [Bool.not_eq_true'] at h1 h2
    exact lexB_total a b h2 h1) h2 (List.pairwise_mergeSort lexLe_trans lexLe_tot ps) (h1.trans (List.mergeSort_perm _ _).symm)
noncomputable def pairA (p : Int × Int) : AV := .tup [.int p.1, .int p.2]
noncomputable def intA (p : Int × Int) : AV := .int p.1
noncomputable def prOf : List AV → Option (List (Int × Int))
  | [] => some []
  | x :: r => (match x.tup? with
    | some [a, b] => (match a.int?, b.int?, prOf r with
      | some i, some j, some ps => some ((i, j) :: ps)
      | _, _, _ => .none)
    | _ => .none)
theorem prOf_map : ∀ {xs : List AV} {ps : List (Int × Int)}, prOf xs = some ps → xs = ps.map pairA
  | [], ps, h => by cases h; rfl
  | x :: r, ps, h => by
    rw [prOf] at h
    split at h
    · rename_i a b h1
      split at h
      · rename_i i j qs h2 h3 h4
        cases h
        rw [AV.tup_of h1, AV.int_of h2, AV.int_of h3, prOf_map h4]; rfl
      · cases h
    · cases h
theorem intsOf_map : ∀ {xs : List AV} {ns : List Int}, intsOf xs = some ns → xs = ns.map .int
  | [], ns, h => by cases h; rfl
  | x :: xs, ns, h => by
    cases x with
    | int i =>
      simp only [intsOf] at h
      split at h
      · rename_i ms e; cases h; rw [intsOf_map e]; rfl
      · cases h
    | _ => cases h
noncomputable def sortedM : List AV → Cm AV := fun xs st => match xs with
  | [x] => (match itemsM x st with
    | some (ys, _) => if ys.length < 128 then (match intsOf ys with
      | some ns => some (.lst ((sortP (ns.map fun n => (n, 0))).map intA), st)
      | .none => (match prOf ys with
        | some ps => some (.lst ((sortP ps).map pairA), st)
        | .none => .none)) else .none
    | .none => .none)
  | _ => .none
noncomputable def prKey (h : Heap) : Value → Int × Int
  | .ref a => (match h.get? a with
    | some o => (match o.data with | .seq its _ => (numOf (its.getD 0 .none), numOf (its.getD 1 .none)) | _ => (0, 0))
    | .none => (0, 0))
  | _ => (0, 0)
noncomputable def IsPr (h : Heap) (v : Value) (r : Int × Int) : Prop := ∃ a o m t u, v = .ref a ∧ h.get? a = some o ∧ o.cls = .type "tuple" ∧ o.data = .seq #[.int r.1 t, .int r.2 u] m
theorem IsPr.key {h : Heap} {v : Value} {r : Int × Int} (i : IsPr h v r) : prKey h v = r := by
  obtain ⟨a, o, m, t, u, rfl, e, _, d⟩ := i
  unfold prKey
  simp only [e, d]
  rfl
section
variable {prog : Program} {w : World} {A : Around} {E : Value → Shared → Prop} {s : Shared}
theorem lt_any {x y : Keyed} {r : Bool} {kd : SortKind} (hl : ∀ Q : Bool → Shared → Prop, Q r s → wpAny (model prog w) A (keyLt' kd x.1 y.1) Q (fun _ _ => False) s) {st : SortSt} {Q : Option Bool → SortSt → Prop} (hk : kindOf st = kd) (h : Q (some r) st) :
    wpS (model prog w) A E s (lt' x y) Q st := by
  rw [lt'_eq]
  refine wpS_bind (wpS_get ?_)
  rw [hk]
  refine wpS_bind (wpS_lift (wpAny_attempt ?_))
  exact wpAny_mono (hl (fun b s' => s' = s ∧ b = r) ⟨rfl, rfl⟩) (fun b s' q => by obtain ⟨rfl, rfl⟩ := q; exact ⟨rfl, wpS_pure h⟩) fun _ _ q => q.elim
theorem lt_ints {x y : Keyed} {a b : Int} {t u : Tok} (e1 : x.1 = .int a t) (e2 : y.1 = .int b u) {st : SortSt} {Q : Option Bool → SortSt → Prop} (hk : kindOf st = oneType') (h : Q (some (lexB (a, 0) (b, 0))) st) : wpS (model prog w) A E s (lt' x y) Q st := by
  refine lt_any (kd := oneType') (r := lexB (a, 0) (b, 0)) (fun Q hq => ?_) hk h
  have e : lexB (a, 0) (b, 0) = decide (a < b) := by unfold lexB; simp
  rw [e1, e2, keyLt'_oneType]
  rw [e] at hq
  exact oneLt_int hq
theorem lt_pr {x y : Keyed} {p q : Int × Int} (h1 : IsPr s.heap x.1 p) (h2 : IsPr s.heap y.1 q) {st : SortSt} {Q : Option Bool → SortSt → Prop} (hk : kindOf st = tuples' true) (h : Q (some (lexB p q)) st) : wpS (model prog w) A E s (lt' x y) Q st := by
  refine lt_any (kd := tuples' true) (r := lexB p q) (fun Q hq => ?_) hk h
  obtain ⟨a, o, m, t, u, e1, g1, _, d1⟩ := h1
  obtain ⟨b, o2, m2, t2, u2, e2, g2, _, d2⟩ := h2
  rw [e1, e2]
  refine kat_lt g1 d1 g2 d2 (kat_cons (PySem.SeqAt.EqAt.int_int _ _ _ _ _ _ _ _ ?_))
  by_cases k1 : p.1 = q.1
  · rw [show (p.1 == q.1) = true by simpa using k1]
    refine kat_yes (kat_cons (PySem.SeqAt.EqAt.int_int _ _ _ _ _ _ _ _ ?_))
    by_cases k2 : p.2 = q.2
    · rw [show (p.2 == q.2) = true by simpa using k2]
      refine kat_yes (kat_nil ?_)
      have : lexB p q = false := by rw [Prod.ext k1 k2]; exact lexB_irrefl q
      rw [this] at hq
      exact hq
    · rw [show (p.2 == q.2) = false by simpa using k2]
      refine kat_no (kat_one _ _ ?_)
      have : lexB p q = decide (p.2 < q.2) := by unfold lexB; simp [k1]
      rw [this] at hq
      exact P.lt_int hq
  · rw [show (p.1 == q.1) = false by simpa using k1]
    have : lexB p q = decide (p.1 < q.1) := by unfold lexB; simp [k1]
    rw [this] at hq
    exact kat_no (oneLt_int hq)
theorem pr_tups {f : Value → Int × Int} : ∀ {vs : List Value}, (∀ v ∈ vs, IsPr s.heap v (f v)) → ∃ fs : List Value, KatTups s.heap vs fs ∧ fs.length = vs.length ∧ ∀ v ∈ fs, Looks (model prog w) s.heap (typeOf v) (.type "int")
  | [], _ => ⟨[], .nil, rfl, fun _ h => by cases h⟩
  | v :: vs, h => by
    obtain ⟨fs, h1, h2, h3⟩ := pr_tups (vs := vs) fun u hu => h u (List.mem_cons_of_mem _ hu)
    obtain ⟨a, o, m, t, u, rfl, g, c, d⟩ := h v List.mem_cons_self
    refine ⟨.int (f (.ref a)).1 t :: fs, .cons g c d rfl h1, by rw [List.length_cons, List.length_cons, h2], fun y hy => ?_⟩
    rcases List.mem_cons.mp hy with rfl | hy
    · exact .now
    · exact h3 y hy
end
theorem VRs.ofMap {W : Wd} {f : Value → AV} : ∀ {l : List Value}, (∀ v ∈ l, VR W v (f v)) → VRs W l (l.map f)
  | [], _ => .nil
  | v :: l, h => .cons (h v List.mem_cons_self) (VRs.ofMap fun u hu => h u (List.mem_cons_of_mem _ hu))
theorem VRs.toMap {W : Wd} {β : Type} {f : β → AV} {key : Value → β} {R : Value → β → Prop} (hf : ∀ v r, VR W v (f r) → R v r ∧ key v = r) : ∀ {vs : List Value} {rs : List β}, VRs W vs (rs.map f) → vs.map key = rs ∧ ∀ v ∈ vs, R v (key v) ∧ VR W v (f (key v))
  | [], [], _ => ⟨rfl, fun v hv => by cases hv⟩
  | v :: vs, r :: rs, .cons a q => by
    obtain ⟨h1, h2⟩ := VRs.toMap hf q
    obtain ⟨k1, k2⟩ := hf v r a
    refine ⟨by rw [List.map_cons, k2, h1], fun u hu => ?_⟩
    rcases List.mem_cons.mp hu with rfl | hu
    · rw [k2]; exact ⟨k1, a⟩
    · exact h2 u hu
section
variable {c : Cx} {n : Nat} {sx : Sx}
theorem sorted_new {p : Pl} {W : Wd} {st : AS} {s : Shared} (I : Inv c p W st s) {vs : List Value} {out : Array Value} {xs : List AV} (hv : VRs W out.toList xs) {Q : Value → Shared → Prop}
    (hQ : ∀ W' a s', Ext p.Own W s W' s' → Inv c p W' st s' → VR W' a (.lst xs) → Q a s') : Q (.ref (s.heap.objs.size + 1)) { s with heap := sortedAll s.heap vs out } := by
  obtain ⟨e, he⟩ := sortedAll_at s.heap vs out
  have hn : s.heap.get? (s.heap.objs.size + 1) = .none := get_none_of_ge (Nat.le_succ _)
  have kp : ∀ b o, s.heap.get? b = some o → (sortedAll s.heap vs out).get? b = some o := fun _ _ => sortedAll_old
  have hN : NewW W s.heap (W.set (s.heap.objs.size + 1) (.frz (seqObj "list" out e))) (sortedAll s.heap vs out) := .inr ⟨_, _, hn, he, rfl⟩
  have H : ∀ a, s.heap.get? a = .none → W.role a = .oth := fun a => I.hr.oth_of_none
  refine hQ _ _ _ ((Ext.refl (own := p.Own) W s).pokeW (tk := s.toks) (wr := []) H (fun _ h => by cases h) (fun b o _ => kp b o) hN) (I.pokeW (tk := s.toks) (wr := []) (fun _ h => by cases h) (fun _ h => by cases h) (fun _ h => by cases h) (fun _ h => by cases h) (fun b o _ => kp b o) hN) ?_
  have L := hN.le H
  have e2 : out.toList.toArray = out := by simp
  exact .lst (vs := out.toList) (n := e) (by rw [e2]; exact Wd.set_self) (hv.mono L)
theorem sorted_by {p : Pl} {W : Wd} {st : AS} {s : Shared} {E : Value → Shared → Prop} (I : Inv c p W st s) {a : Addr} {us : List Value} {m : Nat} (hg : s.heap.get? a = some (listOf us.toArray m)) (hl : us.length < 128) {f : Int × Int → AV} {key : Value → Int × Int} {ps : List (Int × Int)} {kd : SortKind}
    (k1 : us.map key = ps) (k2 : ∀ v ∈ us, VR W v (f (key v)))
    (hk : ∀ s' : Shared, (∀ b o, s.heap.get? b = some o → s'.heap.get? b = some o) → 2 ≤ us.length → ∀ (Q : SortKind → Shared → Prop) (E : Value → Shared → Prop), Q kd s' → wpAny (model c.prog c.w) p.A.in1.in1 (keyKind' us.toArray) Q E s')
    (hC : ∀ (s' : Shared) (E : Value → Shared → Prop), (∀ b o, s.heap.get? b = some o → s'.heap.get? b = some o) → Cmps c.prog c.w p.A.in1.in1 E s' lexOrd key kd (PyProof.Rows.pairsOf us))
    {Q : Value → Shared → Prop} (hQ : ∀ W' a s', Ext p.Own W s W' s' → Inv c p W' st s' → VR W' a (.lst ((sortP ps).map f)) → Q a s') : wpAny (model c.prog c.w) p.A (call (.builtin "sorted") [.ref a]) Q E s := by
  refine sorted_call (O := lexOrd) (key := key) (kd := kd) ⟨_, hg, rfl, _, rfl⟩ hl hk hC fun st' hp hu => ?_
  have hl2 : (arrOf st').toList.Perm (us.zip us) := by rw [← pairsOf_toList]; exact Array.perm_iff_toList_perm.mp hp
  have mem2 : ∀ x ∈ (arrOf st').toList, x.1 = x.2 ∧ x.1 ∈ us := fun x hx => mem_zip_self (hl2.mem_iff.mp hx)
  have hsz : (arrOf st').toList.length = us.length := by rw [hl2.length_eq]; simp
  have e1 : ((arrOf st').map (·.2)).toList = (arrOf st').toList.map (·.1) := by rw [Array.toList_map]; exact List.map_congr_left fun x hx => (mem2 x hx).1.symm
  have perm : ((arrOf st').toList.map fun x => key x.1).Perm ps := by
    have h1 := hl2.map (fun x => key x.1)
    have h2 : (us.zip us).map (fun x => key x.1) = ps := by
      have : (us.zip us).map (fun x => key x.1) = ((us.zip us).map Prod.fst).map key := by rw [List.map_map]; rfl
      rw [this, List.map_fst_zip (Nat.le_refl _), k1]
    rwa [h2] at h1
  have pw : ((arrOf st').toList.map fun x => key x.1).Pairwise (fun a b => lexLe a b = true) := by
    rw [List.pairwise_map]
    have sz : (arrOf st').size = us.length := by rw [← hsz]; simp
    rw [← sz] at hu
    exact hu.pairs.imp fun {x y} h => by unfold lexLe; rw [Bool.not_eq_true']; exact h
  rw [← sortP_is perm pw] at hQ
  refine sorted_new I (xs := ((arrOf st').toList.map fun x => key x.1).map f) ?_ hQ
  rw [e1, List.map_map]
  have := VRs.ofMap (W := W) (f := fun v => f (key v)) (l := (arrOf st').toList.map (·.1)) fun v hv => by
    obtain ⟨x, hx, rfl⟩ := List.mem_map.mp hv
    exact k2 _ (mem2 x hx).2
  rw [List.map_map] at this
  exact this
theorem sorted_ok : OkCall c n (.builtin "sorted") sortedM := by
  intro p hr W0 vs xs hv W st s hle I b st' e Q E hQ
  unfold sortedM at e
  split at e
  · split at e
    · rename_i x ys q he
      cases hv with
      | cons h1 h2 =>
        cases h2
        obtain ⟨a, us, m, rfl, hg, hvs⟩ := items_hr I.hr (h1.mono hle) he
        have hlen := hvs.length
        have mem : ∀ x ∈ (PyProof.Rows.pairsOf us).toList, x.1 ∈ us := fun x hx => by rw [pairsOf_toList] at hx; exact (mem_zip_self hx).2
        split at e
        · rename_i hl
          split at e
          · rename_i ns hi
            cases e
            rw [intsOf_map hi] at hvs
            obtain ⟨k1, k2⟩ := hvs.toMap (key := numOf) (R := fun v r => ∃ t, v = .int r t) (fun v r h => by
              obtain ⟨t, rfl⟩ := h.inv_int
              exact ⟨⟨t, rfl⟩, rfl⟩)
            refine sorted_by (key := fun v => (numOf v, 0)) (kd := oneType') I hg (by omega) (by rw [← k1, List.map_map]; rfl) (fun v hv => (k2 v hv).2) (fun s' k h2 Q E hq => kas_kind h2 (T := .type "int") (fun v hv => ?_) rfl rfl hq) (fun s' E' k x y hx hy st' Q' hk hq => ?_) hQ
            · obtain ⟨t, q⟩ := (k2 v hv).1
              rw [q]
              exact .now
            · obtain ⟨t1, q1⟩ := (k2 _ (mem x hx)).1
              obtain ⟨t2, q2⟩ := (k2 _ (mem y hy)).1
              exact lt_ints q1 q2 hk hq
          · split at e
            · rename_i ps hps
              cases e
              rw [prOf_map hps] at hvs
              obtain ⟨k1, k2⟩ := hvs.toMap (key := prKey s.heap) (R := IsPr s.heap) (fun v r h => by
                obtain ⟨b, o, ws, k, rfl, g1, g2, g3, g4⟩ := h.inv_tup
                have : IsPr s.heap (.ref b) r := by
                  cases g4 with
                  | cons a1 g4 =>
                    cases g4 with
                    | cons a2 g4 =>
                      cases g4
                      obtain ⟨t, rfl⟩ := a1.inv_int
                      obtain ⟨u, rfl⟩ := a2.inv_int
                      exact ⟨b, o, k, t, u, rfl, I.hr.frz _ _ g1, g2, g3⟩
                exact ⟨this, this.key⟩)
              have stay : ∀ (s' : Shared), (∀ b o, s.heap.get? b = some o → s'.heap.get? b = some o) → ∀ v ∈ us, IsPr s'.heap v (prKey s.heap v) := fun s' k v hv => by
                obtain ⟨b, o, m', t, u, g0, g1, g2, g3⟩ := (k2 v hv).1
                exact ⟨b, o, m', t, u, g0, k _ _ g1, g2, g3⟩
              refine sorted_by (kd := tuples' true) I hg (by omega) k1 (fun v hv => (k2 v hv).2) (fun s' k h2 Q E hq => ?_) (fun s' E' k x y hx hy st' Q' hk hq => lt_pr (stay s' k _ (mem x hx)) (stay s' k _ (mem y hy)) hk hq) hQ
              obtain ⟨fs, f1, f2, f3⟩ := pr_tups (prog := c.prog) (w := c.w) (stay s' k)
              exact kat_kind f1 (by omega) f3 rfl hq
            · cases e
        · cases e
    · cases e
  · cases e
noncomputable def lenBM : List AV → Cm AV := fun xs st => match xs with
  | [.bytes b] => if b.size ≤ 100000 then some (.int b.size, st) else .none
  | xs => lenM xs st
theorem lenB_ok : OkCall c n (.builtin "len") lenBM := by
  intro p hr W0 vs xs hv W st s hle I b st' e Q E hQ
  unfold lenBM at e
  split at e
  · split at e
    · rename_i bb hb
      cases e
      cases hv with
      | cons h1 h2 =>
        cases h2
        obtain ⟨t, rfl⟩ := h1.inv_bytes
        exact len_bytes (by omega) (hQ W _ _ ((Ext.refl ..).toks _) (I.toks _) (.int _ _))
    · cases e
  · exact len_ok p hr W0 vs xs hv W st s hle I b st' e Q E hQ
noncomputable def chrM : List AV → Cm AV := fun xs => match xs with
  | [.int i] => if 0 ≤ i ∧ i ≤ 1114111 then pu (.str ⟨#[i.toNat]⟩) else no
  | _ => no
theorem chr_ok : OkCall c n (.builtin "chr") chrM := by
  intro p hr W0 vs xs hv W st s hle I b st' e Q E hQ
  unfold chrM at e
  split at e
  · split at e
    · rename_i i hi
      cases e
      cases hv with
      | cons h1 h2 =>
        cases h2
        obtain ⟨t, rfl⟩ := h1.inv_int
        exact chr_of_range hi.1 hi.2 (hQ W _ _ ((Ext.refl ..).toks _) (I.toks _) (.str _ _))
    · cases e
  · cases e
noncomputable def AV.byt? : AV → Option (Array UInt8)
  | .bytes b => some b
  | _ => .none
theorem AV.byt_of {x : AV} {b : Array UInt8} (h : x.byt? = some b) : x = .bytes b := by
  unfold AV.byt? at h
  split at h
  · cases h; rfl
  · cases h
noncomputable def itemBM (b : Array UInt8) (k : Int) : Cm AV := if 0 ≤ k ∧ k < b.size ∧ b.size ≤ 100000 then pu (.int ((b.toList.getD k.toNat 0).toNat : Nat)) else no
noncomputable def itemTM (xs : List AV) (k : Int) : Cm AV := if 0 ≤ k ∧ xs.length ≤ 100000 then (match xs[k.toNat]? with | some v => pu v | .none => no) else no
noncomputable def item2M : AV → AV → Cm AV := fun o i => match i.int? with
  | some k => (match o.byt? with
    | some b => itemBM b k
    | .none => (match o.tup? with
      | some xs => itemTM xs k
      | .none => getItemM o i))
  | .none => no
theorem item2_ok {p : Pl} {value slice : Expr} {W0 : Wd} {o i : Value} {x y : AV} (ho : VR W0 o x) (hi : VR W0 i y) (hs : ∀ o i, subscripted slice false o i = operate [o, i] (getItem o i)) : Ok c p W0 (subscriptTail value slice o i) VR (item2M x y) := by
  intro W st s hle I b st' e Q E hQ
  unfold item2M at e
  cases q1 : y.int? with
  | none => rw [q1] at e; cases e
  | some k =>
    rw [q1] at e
    obtain rfl := AV.int_of q1
    obtain ⟨u, rfl⟩ := hi.inv_int
    cases q2 : x.byt? with
    | some bb =>
      rw [q2] at e
      obtain rfl := AV.byt_of q2
      obtain ⟨t, rfl⟩ := ho.inv_bytes
      dsimp only [itemBM] at e
      split at e
      · rename_i hk
        cases e
        refine tail_any (T := "bytes") (typeIs_bytes s _ t) FB.slot_bytes_getitem.lookup ?_ (hs _ _)
        have := getItem_bytes (prog := c.prog) (w := c.w) (A := p.A) (E := E) (s := s) (l := bb.toList) (i := k) (t := t) (u := u) (Q := Q) (by rw [Array.length_toList]; exact Nat.le_trans hk.2.2 (by decide)) hk.1 (by rw [Array.length_toList]; exact hk.2.1) (hQ W _ _ ((Ext.refl ..).toks _) (I.toks _) (.int _ _))
        simpa using this
      · cases e
    | none =>
      rw [q2] at e
      cases q3 : x.tup? with
      | some xs =>
        rw [q3] at e
        obtain rfl := AV.tup_of q3
        obtain ⟨a, o, vs, m, rfl, h1, t1, t2, h2⟩ := (ho.mono hle).inv_tup
        dsimp only [itemTM] at e
        split at e
        · rename_i hk
          cases hv : xs[k.toNat]? with
          | none => rw [hv] at e; cases e
          | some v =>
            rw [hv] at e
            cases e
            obtain ⟨w, hw, r⟩ := h2.get hv
            have hlt : k.toNat < xs.length := (List.getElem?_eq_some_iff.mp hv).1
            have hl := h2.length
            refine tail_any (T := "tuple") ⟨_, I.hr.frz _ _ h1, t1⟩ slot_tuple_getitem.lookup (getItem_tuple (j := k.toNat) (I.hr.isTuple h1 t1 t2) (by omega) (by omega) ?_ (by rw [List.getElem?_toArray]; exact hw) ?_) (hs _ _)
            · rw [List.size_toArray, hl]
              unfold seqIndex?
              simp only [show ¬ k < 0 from by omega, if_false]
              rw [if_pos (by simp; omega)]
            · exact hQ W w s (Ext.refl ..) I r
        · cases e
      | none =>
        rw [q3] at e
        exact getItem_ok ho (.int k u) hs W st s hle I b st' e Q E hQ
theorem ImplE.item2 {value slice : Expr} {pos : Pos} {f g : Cm AV} (h1 : ImplE c n sx value f) (h2 : ImplE c n sx slice g) (hs : notSlice slice = true := by rfl) : ImplE c n sx (.Subscript value slice pos) (bin2 f g item2M) := by
  intro p hsx hr W0 W st s hle I b st' e Q E hQ
  obtain ⟨x, st1, e1, e2⟩ := bd_some e
  obtain ⟨y, st2, e3, e4⟩ := bd_some e2
  refine Subscript_ (h1 p hsx hr W W st s (Le.refl _) I x st1 e1 _ E fun W1 a s1 x1 I1 r1 => ?_)
  refine h2 p hsx hr W1 W1 st1 s1 (Le.refl _) I1 y st2 e3 _ E fun W2 vb s2 x2 I2 r2 => ?_
  exact item2_ok (r1.mono x2.le) r2 (sub_plain hs) W2 st2 s2 (Le.refl _) I2 b st' e4 Q E fun W3 v s3 x3 I3 r3 => hQ W3 v s3 ((x1.trans x2).trans x3) I3 r3
noncomputable def cutM (fv : Cm AV) (fl : Cm (Option Int)) : Cm AV := bd fv fun x => bd fl fun lo => match x.byt? with
  | some b => if b.size ≤ 100000 then pu (.bytes (KBy.picked b lo .none)) else no
  | .none => no
theorem ImplE.cut {value : Expr} {l : Option Expr} {p0 pos : Pos} {fv : Cm AV} {fl : Cm (Option Int)} (h0 : ImplE c n sx value fv) (h1 : ImplP c n sx l fl) : ImplE c n sx (.Subscript value (.Slice l .none .none p0) pos) (cutM fv fl) := by
  intro p hsx hr W0 W sta s hle I b st' e Q E hQ
  obtain ⟨x, st1, e1, e0⟩ := bd_some e
  obtain ⟨lo, st2, e2, e3⟩ := bd_some e0
  clear e e0
  refine Subscript_ (h0 p hsx hr W W sta s (Le.refl _) I x st1 e1 _ E fun W1 o s1 x1 I1 r1 => ?_)
  refine wpAny_Slice (h1 p hsx hr W1 W1 st1 s1 (Le.refl _) I1 lo st2 e2 _ E fun W2 vl s2 x2 I2 r2 => ?_)
  refine wpAny_pure (wpAny_pure ?_)
  cases q : x.byt? with
  | none => rw [q] at e3; cases e3
  | some bb =>
    rw [q] at e3
    obtain rfl := AV.byt_of q
    obtain ⟨t, rfl⟩ := r1.inv_bytes
    by_cases hb : bb.size ≤ 100000
    · simp only [if_pos hb] at e3
      cases e3
      have I5 : Inv c p W2 st' { s2 with heap := s2.heap.push { cls := .type "slice", data := .fields #[vl, .none, .none] } } := I2.keeps (fun _ _ e => Heap.get?_push_of_some _ e)
      have x5 : Ext p.Own W2 s2 W2 { s2 with heap := s2.heap.push { cls := .type "slice", data := .fields #[vl, .none, .none] } } := Ext.keeps _ _ (fun _ _ e => Heap.get?_push_of_some _ e) rfl rfl
      refine tail_any (T := "bytes") (ops := [.ref s2.heap.objs.size, .bytes bb t]) (typeIs_bytes _ _ _) FB.slot_bytes_getitem.lookup (getItem_meets (typeIs_bytes _ _ _) (by decide) FB.slot_bytes_getitem FB.entry_bytes_getitem (FB.args_bytes_getitem_2 _ _) (KBc.meets_slice2 bb t _ r2 .none)
        ⟨Heap.IsSliceOf.new _ _ _ _, Nat.le_trans (KBc.size_picked_le bb lo .none) (Nat.le_trans hb (by decide)), fun t' k => ?_⟩) rfl
      exact hQ W2 _ _ ((x1.trans x2).trans (x5.toks _)) (I5.toks _) (.bytes _ _)
    · simp only [if_neg hb] at e3; cases e3
noncomputable def strsOf : List AV → Option (List Str)
  | [] => some []
  | .str x :: r => (match strsOf r with | some ys => some (x :: ys) | .none => .none)
  | _ :: _ => .none
theorem strsOf_are {W : Wd} : ∀ {vs : List Value} {xs : List AV} {ys : List Str}, VRs W vs xs → strsOf xs = some ys → StrsAre vs ys
  | _, _, _, .nil, h => by cases h; exact .nil
  | _, x :: xs, _, .cons a r, h => by
    cases x with
    | str i =>
      obtain ⟨t, rfl⟩ := a.inv_str
      simp only [strsOf] at h
      split at h
      · rename_i ys e; cases h; exact .cons _ _ (strsOf_are r e)
      · cases h
    | _ => cases h
noncomputable def joinM (fo : Cm AV) (fs : Cm (List AV)) : Cm AV := bd fo fun x => bd fs fun ys => fun st => match x, ys with
  | .str sep, [y] => (match itemsM y st with
    | some (zs, _) => (match strsOf zs with
      | some ts => if sep.length ≤ 16 ∧ (ts.map (·.length)).sum + ts.length ≤ 1048576 then some (.str (Txt.join sep ts), st) else .none
      | .none => .none)
    | .none => .none)
  | _, _ => .none
theorem ImplE.join {o : Expr} {apos pos : Pos} {es : List Expr} {fo : Cm AV} {fs : Cm (List AV)} (h0 : ImplE c n sx o fo) (h1 : ImplEs c n sx es fs)
    (hb : ∀ env t, attributeBase o "join" env t = t := by intro _ _; rfl) (hp : es.all plainX = true := by rfl) (hl : (apos.endLine == pos.line) = true := by rfl) (hfew : decide (es.length < 30) = true := by rfl) :
    ImplE c n sx (.Call (.Attribute o "join" apos) es [] pos) (joinM fo fs) := by
  intro p hsx hr W0 W st s hle I b st' e Q E hQ
  obtain ⟨x, st1, e1, e2⟩ := bd_some e
  obtain ⟨ys, st2, e5, e6⟩ := bd_some e2
  rw [arm_eval_Call, hb]
  refine wpAny_bind (h0 p hsx hr W W st s (Le.refl _) I x st1 e1 _ E fun W1 ov s1 x1 I1 r1 => wpAny_bind (wpAny_standAt ?_))
  split at e6
  · rename_i sep y
    obtain ⟨t, rfl⟩ := r1.inv_str
    have hform : methodCallForm (es.length + ([] : List Keyword).length) (backTo pos (starEach es p.env)) (backToKw pos (keywordEach [] p.env)) = true := by
      unfold methodCallForm
      have h1 : (backTo pos (starEach es p.env)).all (fun x => !x.1) = true := by
        have := any_false (env := p.env) (pos := pos) hp
        rw [List.all_eq_not_any_not]; simpa using this
      rw [h1]
      show (true && true && decide (es.length + 0 + 0 < 30)) = true
      simpa using hfew
    have hpos : methodCallPos true o p.env apos pos = pure pos := by unfold methodCallPos; simp [hl]
    unfold methodCall
    rw [hform]
    refine wpAny_bind (wpAny_holding ?_)
    show wpAny _ _ (getMethod (.str sep t) "join" _) _ _ _
    refine GM.join ?_
    refine wpAny_bind (wpAny_of_eq hpos ?_)
    refine Calls.callWith_builtin (any_false hp) (evalArgs_row hp ?_)
    refine h1 p hsx hr W1 pos W1 st1 s1 (Le.refl _) I1 [y] st2 e5 _ E fun W2 ws s2 x2 I2 r2 => ?_
    cases r2 with
    | cons ry rr =>
      cases rr
      split at e6
      · rename_i zs q he
        split at e6
        · rename_i ts hts
          split at e6
          · rename_i hk
            cases e6
            obtain ⟨a, us, m, rfl, hg, hus⟩ := items_hr I2.hr ry he
            refine join_listW (items := us.toArray) ⟨_, hg, rfl, _, rfl⟩ (strsOf_are hus hts) hk.1 hk.2 fun t' k => ?_
            exact hQ W2 _ _ ((x1.trans x2).trans ((Ext.refl ..).toks _)) (I2.toks _) (.str _ _)
          · cases e6
        · cases e6
      · cases e6
  · cases e6
end
end Mine

set_option maxRecDepth 100000 in
set_option maxHeartbeats 8000000 in
open_top hd06 for PySem.Challenge.rw_dn0304_06
namespace Mine
set_option maxHeartbeats 4000000
section
variable {w : World} {h0 : Heap} {mg mb : Str → Option Value} {n : Nat} {sx : Sx}
noncomputable abbrev cx (w : World) (h0 : Heap) (mg mb : Str → Option Value) : Cx := ⟨PySem.Challenge.rw_dn0304_06.row.prog, w, hd06.heap_39 w.params, 102, h0, mg, mb⟩

theorem cls : Cls (cx w h0 mg mb) where
  makes := by show makesIn (hd06.heap_39 w.params) 102 = true; k_is
  ga := by show findIn (hd06.heap_39 w.params) (.ref 102) (Str.ofString "__getattribute__") = _; k_is
  gat := by show findIn (hd06.heap_39 w.params) (.ref 102) (Str.ofString "__getattr__") = _; k_is
  sa := by show findIn (hd06.heap_39 w.params) (.ref 102) (Str.ofString "__setattr__") = _; k_is
  plain := by show plainOver (hd06.heap_39 w.params) 102 = true; k_is
  hasDict := by show hasDictIn (hd06.heap_39 w.params) 102 = true; k_is
  fields := fun f => by
    cases f
    · show findIn (hd06.heap_39 w.params) (.ref 102) (Str.ofString "_InputSource__system_id") = _; k_is
    · show findIn (hd06.heap_39 w.params) (.ref 102) (Str.ofString "_InputSource__public_id") = _; k_is
    · show findIn (hd06.heap_39 w.params) (.ref 102) (Str.ofString "_InputSource__encoding") = _; k_is
    · show findIn (hd06.heap_39 w.params) (.ref 102) (Str.ofString "_InputSource__bytefile") = _; k_is
    · show findIn (hd06.heap_39 w.params) (.ref 102) (Str.ofString "_InputSource__charfile") = _; k_is
  keep := by show keepIn (hd06.heap_39 w.params) (.ref 102) = true; k_is

theorem one_of {P : List Value → Prop} (h : ∀ x, P [x]) : ∀ vals : List Value, vals.length = 1 → P vals := fun vals e => by
  obtain ⟨x, rfl⟩ := List.length_eq_one_iff.1 e; exact h x
theorem two_of {P : List Value → Prop} (h : ∀ x y, P [x, y]) : ∀ vals : List Value, vals.length = 2 → P vals := fun vals e => by
  match vals, e with | [x, y], _ => exact h x y
theorem m_getSystemId : MethIs (cx w h0 mg mb) "getSystemId" 57 where
  find := by show findIn (hd06.heap_39 w.params) (.ref 102) (Str.ofString "getSystemId") = _; k_is
  typ := by show typeIn (hd06.heap_39 w.params) (.ref 57) = _; k_is
  fn := ⟨_, _, _, _, by show List.lookup 57 (hd06.heap_39 w.params) = _; k_is⟩
  other := fun f => by cases f <;> decide +kernel
theorem f_getSystemId (G : Gd (cx w h0 mg mb)) : ImplF (cx w h0 mg mb) (n + 1) 57 (getF .sys) := getter_ok G cls (x := "self") (f := .sys) ⟨⟨_, _, _, by show List.lookup 57 (hd06.heap_39 w.params) = _; k_is⟩, rfl, rfl, rfl, rfl, by show codeIn (hd06.heap_39 w.params) _ _ = true; k_is, rfl, rfl, rfl, by exact one_of fun _ => rfl, by decide +kernel, by decide +kernel⟩ (by decide +kernel)
theorem m_setSystemId : MethIs (cx w h0 mg mb) "setSystemId" 50 where
  find := by show findIn (hd06.heap_39 w.params) (.ref 102) (Str.ofString "setSystemId") = _; k_is
  typ := by show typeIn (hd06.heap_39 w.params) (.ref 50) = _; k_is
  fn := ⟨_, _, _, _, by show List.lookup 50 (hd06.heap_39 w.params) = _; k_is⟩
  other := fun f => by cases f <;> decide +kernel
theorem f_setSystemId (G : Gd (cx w h0 mg mb)) : ImplF (cx w h0 mg mb) (n + 1) 50 (setF .sys) := setter_ok G cls (x := "self") (y := "system_id") (f := .sys) ⟨⟨_, _, _, by show List.lookup 50 (hd06.heap_39 w.params) = _; k_is⟩, rfl, rfl, rfl, rfl, by show codeIn (hd06.heap_39 w.params) _ _ = true; k_is, rfl, rfl, rfl, by exact two_of fun _ _ => rfl, by decide +kernel, by decide +kernel⟩ (by decide +kernel) (by decide +kernel)
theorem m_getPublicId : MethIs (cx w h0 mg mb) "getPublicId" 43 where
  find := by show findIn (hd06.heap_39 w.params) (.ref 102) (Str.ofString "getPublicId") = _; k_is
  typ := by show typeIn (hd06.heap_39 w.params) (.ref 43) = _; k_is
  fn := ⟨_, _, _, _, by show List.lookup 43 (hd06.heap_39 w.params) = _; k_is⟩
  other := fun f => by cases f <;> decide +kernel
theorem f_getPublicId (G : Gd (cx w h0 mg mb)) : ImplF (cx w h0 mg mb) (n + 1) 43 (getF .pub) := getter_ok G cls (x := "self") (f := .pub) ⟨⟨_, _, _, by show List.lookup 43 (hd06.heap_39 w.params) = _; k_is⟩, rfl, rfl, rfl, rfl, by show codeIn (hd06.heap_39 w.params) _ _ = true; k_is, rfl, rfl, rfl, by exact one_of fun _ => rfl, by decide +kernel, by decide +kernel⟩ (by decide +kernel)
theorem m_setPublicId : MethIs (cx w h0 mg mb) "setPublicId" 36 where
  find := by show findIn (hd06.heap_39 w.params) (.ref 102) (Str.ofString "setPublicId") = _; k_is
  typ := by show typeIn (hd06.heap_39 w.params) (.ref 36) = _; k_is
  fn := ⟨_, _, _, _, by show List.lookup 36 (hd06.heap_39 w.params) = _; k_is⟩
  other := fun f => by cases f <;> decide +kernel
theorem f_setPublicId (G : Gd (cx w h0 mg mb)) : ImplF (cx w h0 mg mb) (n + 1) 36 (setF .pub) := setter_ok G cls (x := "self") (y := "public_id") (f := .pub) ⟨⟨_, _, _, by show List.lookup 36 (hd06.heap_39 w.params) = _; k_is⟩, rfl, rfl, rfl, rfl, by show codeIn (hd06.heap_39 w.params) _ _ = true; k_is, rfl, rfl, rfl, by exact two_of fun _ _ => rfl, by decide +kernel, by decide +kernel⟩ (by decide +kernel) (by decide +kernel)
theorem m_getEncoding : MethIs (cx w h0 mg mb) "getEncoding" 71 where
  find := by show findIn (hd06.heap_39 w.params) (.ref 102) (Str.ofString "getEncoding") = _; k_is
  typ := by show typeIn (hd06.heap_39 w.params) (.ref 71) = _; k_is
  fn := ⟨_, _, _, _, by show List.lookup 71 (hd06.heap_39 w.params) = _; k_is⟩
  other := fun f => by cases f <;> decide +kernel
theorem f_getEncoding (G : Gd (cx w h0 mg mb)) : ImplF (cx w h0 mg mb) (n + 1) 71 (getF .enc) := getter_ok G cls (x := "self") (f := .enc) ⟨⟨_, _, _, by show List.lookup 71 (hd06.heap_39 w.params) = _; k_is⟩, rfl, rfl, rfl, rfl, by show codeIn (hd06.heap_39 w.params) _ _ = true; k_is, rfl, rfl, rfl, by exact one_of fun _ => rfl, by decide +kernel, by decide +kernel⟩ (by decide +kernel)
theorem m_setEncoding : MethIs (cx w h0 mg mb) "setEncoding" 64 where
  find := by show findIn (hd06.heap_39 w.params) (.ref 102) (Str.ofString "setEncoding") = _; k_is
  typ := by show typeIn (hd06.heap_39 w.params) (.ref 64) = _; k_is
  fn := ⟨_, _, _, _, by show List.lookup 64 (hd06.heap_39 w.params) = _; k_is⟩
  other := fun f => by cases f <;> decide +kernel
theorem f_setEncoding (G : Gd (cx w h0 mg mb)) : ImplF (cx w h0 mg mb) (n + 1) 64 (setF .enc) := setter_ok G cls (x := "self") (y := "encoding") (f := .enc) ⟨⟨_, _, _, by show List.lookup 64 (hd06.heap_39 w.params) = _; k_is⟩, rfl, rfl, rfl, rfl, by show codeIn (hd06.heap_39 w.params) _ _ = true; k_is, rfl, rfl, rfl, by exact two_of fun _ _ => rfl, by decide +kernel, by decide +kernel⟩ (by decide +kernel) (by decide +kernel)
theorem m_getByteStream : MethIs (cx w h0 mg mb) "getByteStream" 85 where
  find := by show findIn (hd06.heap_39 w.params) (.ref 102) (Str.ofString "getByteStream") = _; k_is
  typ := by show typeIn (hd06.heap_39 w.params) (.ref 85) = _; k_is
  fn := ⟨_, _, _, _, by show List.lookup 85 (hd06.heap_39 w.params) = _; k_is⟩
  other := fun f => by cases f <;> decide +kernel
theorem f_getByteStream (G : Gd (cx w h0 mg mb)) : ImplF (cx w h0 mg mb) (n + 1) 85 (getF .byt) := getter_ok G cls (x := "self") (f := .byt) ⟨⟨_, _, _, by show List.lookup 85 (hd06.heap_39 w.params) = _; k_is⟩, rfl, rfl, rfl, rfl, by show codeIn (hd06.heap_39 w.params) _ _ = true; k_is, rfl, rfl, rfl, by exact one_of fun _ => rfl, by decide +kernel, by decide +kernel⟩ (by decide +kernel)
theorem m_setByteStream : MethIs (cx w h0 mg mb) "setByteStream" 78 where
  find := by show findIn (hd06.heap_39 w.params) (.ref 102) (Str.ofString "setByteStream") = _; k_is
  typ := by show typeIn (hd06.heap_39 w.params) (.ref 78) = _; k_is
  fn := ⟨_, _, _, _, by show List.lookup 78 (hd06.heap_39 w.params) = _; k_is⟩
  other := fun f => by cases f <;> decide +kernel
theorem f_setByteStream (G : Gd (cx w h0 mg mb)) : ImplF (cx w h0 mg mb) (n + 1) 78 (setF .byt) := setter_ok G cls (x := "self") (y := "bytefile") (f := .byt) ⟨⟨_, _, _, by show List.lookup 78 (hd06.heap_39 w.params) = _; k_is⟩, rfl, rfl, rfl, rfl, by show codeIn (hd06.heap_39 w.params) _ _ = true; k_is, rfl, rfl, rfl, by exact two_of fun _ _ => rfl, by decide +kernel, by decide +kernel⟩ (by decide +kernel) (by decide +kernel)
theorem m_getCharacterStream : MethIs (cx w h0 mg mb) "getCharacterStream" 99 where
  find := by show findIn (hd06.heap_39 w.params) (.ref 102) (Str.ofString "getCharacterStream") = _; k_is
  typ := by show typeIn (hd06.heap_39 w.params) (.ref 99) = _; k_is
  fn := ⟨_, _, _, _, by show List.lookup 99 (hd06.heap_39 w.params) = _; k_is⟩
  other := fun f => by cases f <;> decide +kernel
theorem f_getCharacterStream (G : Gd (cx w h0 mg mb)) : ImplF (cx w h0 mg mb) (n + 1) 99 (getF .chr) := getter_ok G cls (x := "self") (f := .chr) ⟨⟨_, _, _, by show List.lookup 99 (hd06.heap_39 w.params) = _; k_is⟩, rfl, rfl, rfl, rfl, by show codeIn (hd06.heap_39 w.params) _ _ = true; k_is, rfl, rfl, rfl, by exact one_of fun _ => rfl, by decide +kernel, by decide +kernel⟩ (by decide +kernel)
theorem m_setCharacterStream : MethIs (cx w h0 mg mb) "setCharacterStream" 92 where
  find := by show findIn (hd06.heap_39 w.params) (.ref 102) (Str.ofString "setCharacterStream") = _; k_is
  typ := by show typeIn (hd06.heap_39 w.params) (.ref 92) = _; k_is
  fn := ⟨_, _, _, _, by show List.lookup 92 (hd06.heap_39 w.params) = _; k_is⟩
  other := fun f => by cases f <;> decide +kernel
theorem f_setCharacterStream (G : Gd (cx w h0 mg mb)) : ImplF (cx w h0 mg mb) (n + 1) 92 (setF .chr) := setter_ok G cls (x := "self") (y := "charfile") (f := .chr) ⟨⟨_, _, _, by show List.lookup 92 (hd06.heap_39 w.params) = _; k_is⟩, rfl, rfl, rfl, rfl, by show codeIn (hd06.heap_39 w.params) _ _ = true; k_is, rfl, rfl, rfl, by exact two_of fun _ _ => rfl, by decide +kernel, by decide +kernel⟩ (by decide +kernel) (by decide +kernel)
theorem init : ∃ fd body, InitIs (cx w h0 mg mb) 29 fd body "self" "system_id" :=
  ⟨_, _, by show findIn (hd06.heap_39 w.params) (.ref 102) (Str.ofString "__init__") = _; k_is, by show typeIn (hd06.heap_39 w.params) (.ref 29) = _; k_is, ⟨_, _, _, by show List.lookup 29 (hd06.heap_39 w.params) = _; k_is⟩, rfl, by show codeIn (hd06.heap_39 w.params) _ _ = true; k_is, rfl, rfl, rfl, by decide, fun _ _ => rfl, fun _ _ _ => rfl, rfl, rfl, by decide, by decide +kernel, by decide +kernel, ⟨_, _, _, _, _, _, _, _, _, _, _, _, _, _, _, _, _, _, _, _, _, _, _, _, rfl⟩⟩
theorem g_InputSource (G : Gd (cx w h0 mg mb)) : (cx w h0 mg mb).Glob "InputSource" (.ref 102) := .inl (mg_of (K := hd06.heap_39 w.params) G.inK G.g (by show nsIn (hd06.heap_39 w.params) mainGlobals (Str.ofString "InputSource") = _; k_is))
theorem r_law_least : ∃ oc od fd osl, (cx w h0 mg mb).K.lookup 127 = some ⟨oc, od, .func fd, osl⟩ := ⟨_, _, _, _, by show List.lookup 127 (hd06.heap_39 w.params) = _; k_is⟩
theorem g_law_least (G : Gd (cx w h0 mg mb)) : (cx w h0 mg mb).Glob "_law_least" (.ref 127) := .inl (mg_of (K := hd06.heap_39 w.params) G.inK G.g (by show nsIn (hd06.heap_39 w.params) mainGlobals (Str.ofString "_law_least") = _; k_is))
theorem r_law_taken : ∃ oc od fd osl, (cx w h0 mg mb).K.lookup 134 = some ⟨oc, od, .func fd, osl⟩ := ⟨_, _, _, _, by show List.lookup 134 (hd06.heap_39 w.params) = _; k_is⟩
theorem g_law_taken (G : Gd (cx w h0 mg mb)) : (cx w h0 mg mb).Glob "_law_taken" (.ref 134) := .inl (mg_of (K := hd06.heap_39 w.params) G.inK G.g (by show nsIn (hd06.heap_39 w.params) mainGlobals (Str.ofString "_law_taken") = _; k_is))
theorem r_law_told : ∃ oc od fd osl, (cx w h0 mg mb).K.lookup 113 = some ⟨oc, od, .func fd, osl⟩ := ⟨_, _, _, _, by show List.lookup 113 (hd06.heap_39 w.params) = _; k_is⟩
theorem g_law_told (G : Gd (cx w h0 mg mb)) : (cx w h0 mg mb).Glob "_law_told" (.ref 113) := .inl (mg_of (K := hd06.heap_39 w.params) G.inK G.g (by show nsIn (hd06.heap_39 w.params) mainGlobals (Str.ofString "_law_told") = _; k_is))
theorem r_law_washed : ∃ oc od fd osl, (cx w h0 mg mb).K.lookup 120 = some ⟨oc, od, .func fd, osl⟩ := ⟨_, _, _, _, by show List.lookup 120 (hd06.heap_39 w.params) = _; k_is⟩
theorem g_law_washed (G : Gd (cx w h0 mg mb)) : (cx w h0 mg mb).Glob "_law_washed" (.ref 120) := .inl (mg_of (K := hd06.heap_39 w.params) G.inK G.g (by show nsIn (hd06.heap_39 w.params) mainGlobals (Str.ofString "_law_washed") = _; k_is))
theorem g_bytes (G : Gd (cx w h0 mg mb)) (hB : ∀ x : Str, x ≠ "__name__" → mb x = bootBuiltins x) : (cx w h0 mg mb).Glob "bytes" (.type "bytes") := .inr ⟨mg_none_of (K := hd06.heap_39 w.params) G.inK G.g (by show nsIn (hd06.heap_39 w.params) mainGlobals (Str.ofString "bytes") = _; k_is), (hB "bytes" (by decide +kernel)).trans (by rfl)⟩
theorem g_chr (G : Gd (cx w h0 mg mb)) (hB : ∀ x : Str, x ≠ "__name__" → mb x = bootBuiltins x) : (cx w h0 mg mb).Glob "chr" (.builtin "chr") := .inr ⟨mg_none_of (K := hd06.heap_39 w.params) G.inK G.g (by show nsIn (hd06.heap_39 w.params) mainGlobals (Str.ofString "chr") = _; k_is), (hB "chr" (by decide +kernel)).trans (by rfl)⟩
theorem g_len (G : Gd (cx w h0 mg mb)) (hB : ∀ x : Str, x ≠ "__name__" → mb x = bootBuiltins x) : (cx w h0 mg mb).Glob "len" (.builtin "len") := .inr ⟨mg_none_of (K := hd06.heap_39 w.params) G.inK G.g (by show nsIn (hd06.heap_39 w.params) mainGlobals (Str.ofString "len") = _; k_is), (hB "len" (by decide +kernel)).trans (by rfl)⟩
theorem g_range (G : Gd (cx w h0 mg mb)) (hB : ∀ x : Str, x ≠ "__name__" → mb x = bootBuiltins x) : (cx w h0 mg mb).Glob "range" (.type "range") := .inr ⟨mg_none_of (K := hd06.heap_39 w.params) G.inK G.g (by show nsIn (hd06.heap_39 w.params) mainGlobals (Str.ofString "range") = _; k_is), (hB "range" (by decide +kernel)).trans (by rfl)⟩
theorem g_sorted (G : Gd (cx w h0 mg mb)) (hB : ∀ x : Str, x ≠ "__name__" → mb x = bootBuiltins x) : (cx w h0 mg mb).Glob "sorted" (.builtin "sorted") := .inr ⟨mg_none_of (K := hd06.heap_39 w.params) G.inK G.g (by show nsIn (hd06.heap_39 w.params) mainGlobals (Str.ofString "sorted") = _; k_is), (hB "sorted" (by decide +kernel)).trans (by rfl)⟩
theorem g_zip (G : Gd (cx w h0 mg mb)) (hB : ∀ x : Str, x ≠ "__name__" → mb x = bootBuiltins x) : (cx w h0 mg mb).Glob "zip" (.type "zip") := .inr ⟨mg_none_of (K := hd06.heap_39 w.params) G.inK G.g (by show nsIn (hd06.heap_39 w.params) mainGlobals (Str.ofString "zip") = _; k_is), (hB "zip" (by decide +kernel)).trans (by rfl)⟩
theorem e_new (G : Gd (cx w h0 mg mb)) {p0 pos : Pos} {es : List Expr} {fs : Cm (List AV)} (hx : sx.sc.names.lookup ("InputSource" : Str) = some .globalImplicit) (h1 : ImplEs (cx w h0 mg mb) (n + 1) sx es fs) (hp : es.all plainX = true := by rfl) : ImplE (cx w h0 mg mb) (n + 1) sx (.Call (.Name "InputSource" p0) es [] pos) (bd fs newM) :=
  let ⟨_, _, D⟩ := init; ImplE.new G cls D hx (g_InputSource G) h1 (hp := hp)
noncomputable def B_law_told : Cm AF := thenM (retM (bd (consM (methM (var 0) (pu []) (getF .sys)) (consM (methM (var 0) (pu []) (getF .pub)) (consM (methM (var 0) (pu []) (getF .enc)) (consM (methM (var 0) (pu []) (getF .byt)) (consM (methM (var 0) (pu []) (getF .chr)) (pu [])))))) lstM))
  (pu .next)
noncomputable def F_law_told : List AV → Cm AV := runFn 1 0 B_law_told
theorem k_law_told (G : Gd (cx w h0 mg mb)) (hB : ∀ x : Str, x ≠ "__name__" → mb x = bootBuiltins x) : ImplF (cx w h0 mg mb) (n + 2) 113 F_law_told :=
  fn_ok (names := ["source"]) (others := []) (g := B_law_told) G ⟨⟨_, _, _, by show List.lookup 113 (hd06.heap_39 w.params) = _; k_is⟩, rfl, rfl, rfl, rfl, by show codeIn (hd06.heap_39 w.params) _ _ = true; k_is, rfl, rfl, rfl, by exact one_of fun _ => rfl, by decide +kernel, by decide +kernel⟩
  (ImplS.cons (ImplS1.ret (ImplE.list (ImplEs.cons (ImplE.meth G cls m_getSystemId (ImplE.name (i := 0) rfl (by decide +kernel)) (ImplEs.nil) (f_getSystemId G)) (ImplEs.cons (ImplE.meth G cls m_getPublicId (ImplE.name (i := 0) rfl (by decide +kernel)) (ImplEs.nil) (f_getPublicId G)) (ImplEs.cons (ImplE.meth G cls m_getEncoding (ImplE.name (i := 0) rfl (by decide +kernel)) (ImplEs.nil) (f_getEncoding G)) (ImplEs.cons (ImplE.meth G cls m_getByteStream (ImplE.name (i := 0) rfl (by decide +kernel)) (ImplEs.nil) (f_getByteStream G)) (ImplEs.cons (ImplE.meth G cls m_getCharacterStream (ImplE.name (i := 0) rfl (by decide +kernel)) (ImplEs.nil) (f_getCharacterStream G)) (ImplEs.nil))))))))
  (ImplS.nil))
noncomputable def B_law_washed_1 : Cm AF := thenM (asgM (bd (consM (methM (var 0) (consM (var 1) (pu [])) (setF .sys)) (consM (methM (var 0) (consM (var 1) (pu [])) (setF .pub)) (consM (methM (var 0) (consM (var 1) (pu [])) (setF .enc)) (consM (methM (var 0) (consM (var 1) (pu [])) (setF .byt)) (consM (methM (var 0) (consM (var 1) (pu [])) (setF .chr)) (pu [])))))) lstM) (setV 2))
  (thenM (iteM (orM (cmp2 (var 2) (bin2 (bd (consM (pu .none) (pu [])) lstM) (pu (.int 5)) mulLM) neM) (orM (cmp2 (bd (consM (var 0) (pu [])) (callM F_law_told)) (bin2 (bd (consM (var 1) (pu [])) lstM) (pu (.int 5)) mulLM) neM) (pu false))) (thenM (retM (pu (.bool false)))
  (pu .next)) (pu .next))
  (pu .next))
noncomputable def B_law_washed : Cm AF := thenM (forM' (bd (bd (consM (pu (.str "x")) (consM (pu (.str "")) (consM (pu .none) (pu [])))) lstM) lstIt) sizeL nxL (setV 1) (B_law_washed_1))
  (thenM (retM (pu (.bool true)))
  (pu .next))
noncomputable def F_law_washed : List AV → Cm AV := runFn 1 2 B_law_washed
theorem k_law_washed (G : Gd (cx w h0 mg mb)) (hB : ∀ x : Str, x ≠ "__name__" → mb x = bootBuiltins x) : ImplF (cx w h0 mg mb) (n + 3) 120 F_law_washed :=
  fn_ok (names := ["source"]) (others := ["value", "answers"]) (g := B_law_washed) G ⟨⟨_, _, _, by show List.lookup 120 (hd06.heap_39 w.params) = _; k_is⟩, rfl, rfl, rfl, rfl, by show codeIn (hd06.heap_39 w.params) _ _ = true; k_is, rfl, rfl, rfl, by exact one_of fun _ => rfl, by decide +kernel, by decide +kernel⟩
  (ImplS.cons (ImplS1.for (size := sizeL) (gt := goesT) (ImplI.list (ImplE.list (ImplEs.cons (ImplE.cstr) (ImplEs.cons (ImplE.cstr) (ImplEs.cons (ImplE.cnone) (ImplEs.nil)))))) (ImplA.name (i := 1) rfl rfl) (ImplS.cons (ImplS1.assign (ImplE.list (ImplEs.cons (ImplE.meth G cls m_setSystemId (ImplE.name (i := 0) rfl (by decide +kernel)) (ImplEs.cons (ImplE.name (i := 1) rfl (by decide +kernel)) (ImplEs.nil)) (f_setSystemId G)) (ImplEs.cons (ImplE.meth G cls m_setPublicId (ImplE.name (i := 0) rfl (by decide +kernel)) (ImplEs.cons (ImplE.name (i := 1) rfl (by decide +kernel)) (ImplEs.nil)) (f_setPublicId G)) (ImplEs.cons (ImplE.meth G cls m_setEncoding (ImplE.name (i := 0) rfl (by decide +kernel)) (ImplEs.cons (ImplE.name (i := 1) rfl (by decide +kernel)) (ImplEs.nil)) (f_setEncoding G)) (ImplEs.cons (ImplE.meth G cls m_setByteStream (ImplE.name (i := 0) rfl (by decide +kernel)) (ImplEs.cons (ImplE.name (i := 1) rfl (by decide +kernel)) (ImplEs.nil)) (f_setByteStream G)) (ImplEs.cons (ImplE.meth G cls m_setCharacterStream (ImplE.name (i := 0) rfl (by decide +kernel)) (ImplEs.cons (ImplE.name (i := 1) rfl (by decide +kernel)) (ImplEs.nil)) (f_setCharacterStream G)) (ImplEs.nil))))))) (ImplA.name (i := 2) rfl rfl))
  (ImplS.cons (ImplS1.ite (ImplT.bool (ImplTs.or (ImplT.cmp (ImplE.name (i := 2) rfl (by decide +kernel)) (ImplE.bin (ImplE.list (ImplEs.cons (ImplE.cnone) (ImplEs.nil))) (ImplE.cint) mulL_ok) ne_ok) (ImplTs.or (ImplT.cmp (ImplE.callFn G rfl (g_law_told G) r_law_told (ImplEs.cons (ImplE.name (i := 0) rfl (by decide +kernel)) (ImplEs.nil)) (k_law_told G hB)) (ImplE.bin (ImplE.list (ImplEs.cons (ImplE.name (i := 1) rfl (by decide +kernel)) (ImplEs.nil))) (ImplE.cint) mulL_ok) ne_ok) (ImplTs.orNil)))) (ImplS.cons (ImplS1.ret (ImplE.cbool))
  (ImplS.nil)) (ImplS.nil))
  (ImplS.nil))))
  (ImplS.cons (ImplS1.ret (ImplE.cbool))
  (ImplS.nil)))
noncomputable def B_law_least_1 : Cm AF := thenM (asgM (methM (bin2 (var 0) (var 2) item2M) (pu []) (getF .byt)) (setV 3))
  (thenM (iteM (andM (cmp2 (var 3) (pu (.bytes (List.toArray []))) neM) (andM (orM (cmp2 (var 1) (pu .none) isM) (orM (cmp2 (bin2 (var 3) (pu (.int 0)) item2M) (bin2 (methM (bin2 (var 0) (var 1) item2M) (pu []) (getF .byt)) (pu (.int 0)) item2M) ltM) (pu false))) (pu true))) (thenM (asgM (var 2) (setV 1))
  (pu .next)) (pu .next))
  (pu .next))
noncomputable def B_law_least : Cm AF := thenM (asgM (pu .none) (setV 1))
  (thenM (forM' (bd (consM (pu (.int 4)) (pu [])) rangeM) sizeL nxL (setV 2) (B_law_least_1))
  (thenM (retM (var 1))
  (pu .next)))
noncomputable def F_law_least : List AV → Cm AV := runFn 1 3 B_law_least
theorem k_law_least (G : Gd (cx w h0 mg mb)) (hB : ∀ x : Str, x ≠ "__name__" → mb x = bootBuiltins x) : ImplF (cx w h0 mg mb) (n + 2) 127 F_law_least :=
  fn_ok (names := ["sources"]) (others := ["best", "k", "octets"]) (g := B_law_least) G ⟨⟨_, _, _, by show List.lookup 127 (hd06.heap_39 w.params) = _; k_is⟩, rfl, rfl, rfl, rfl, by show codeIn (hd06.heap_39 w.params) _ _ = true; k_is, rfl, rfl, rfl, by exact one_of fun _ => rfl, by decide +kernel, by decide +kernel⟩
  (ImplS.cons (ImplS1.assign (ImplE.cnone) (ImplA.name (i := 1) rfl rfl))
  (ImplS.cons (ImplS1.for (size := sizeL) (gt := goesT) (ImplI.range G rfl (g_range G hB) (ImplEs.cons (ImplE.cint) (ImplEs.nil))) (ImplA.name (i := 2) rfl rfl) (ImplS.cons (ImplS1.assign (ImplE.meth G cls m_getByteStream (ImplE.item2 (ImplE.name (i := 0) rfl (by decide +kernel)) (ImplE.name (i := 2) rfl (by decide +kernel))) (ImplEs.nil) (f_getByteStream G)) (ImplA.name (i := 3) rfl rfl))
  (ImplS.cons (ImplS1.ite (ImplT.bool (ImplTs.and (ImplT.cmp (ImplE.name (i := 3) rfl (by decide +kernel)) (ImplE.cbytes) ne_ok) (ImplTs.and (ImplT.bool (ImplTs.or (ImplT.cmp (ImplE.name (i := 1) rfl (by decide +kernel)) (ImplE.cnone) is_ok) (ImplTs.or (ImplT.cmp (ImplE.item2 (ImplE.name (i := 3) rfl (by decide +kernel)) (ImplE.cint)) (ImplE.item2 (ImplE.meth G cls m_getByteStream (ImplE.item2 (ImplE.name (i := 0) rfl (by decide +kernel)) (ImplE.name (i := 1) rfl (by decide +kernel))) (ImplEs.nil) (f_getByteStream G)) (ImplE.cint)) lt_ok) (ImplTs.orNil)))) (ImplTs.andNil)))) (ImplS.cons (ImplS1.assign (ImplE.name (i := 2) rfl (by decide +kernel)) (ImplA.name (i := 1) rfl rfl))
  (ImplS.nil)) (ImplS.nil))
  (ImplS.nil))))
  (ImplS.cons (ImplS1.ret (ImplE.name (i := 1) rfl (by decide +kernel)))
  (ImplS.nil))))
noncomputable def B_law_taken_1 : Cm AF := thenM (asgM (bin2 (bin2 (var 1) (var 3) addM) (pu (.int 5)) modM) (setV 7))
  (thenM (iteM (cmp2 (var 7) (pu (.int 0)) eqM) (thenM (dropM (lmethM (var 2) (consM (methM (var 0) (consM (cutM (var 4) (partM (pu (.int 1)))) (pu [])) (setF .byt)) (pu [])) appendM))
  (pu .next)) (thenM (iteM (cmp2 (var 7) (pu (.int 1)) eqM) (thenM (dropM (lmethM (var 2) (consM (methM (var 0) (consM (iteM (cmp2 (var 5) (pu .none) isM) (pu (.int 1)) (bin2 (var 5) (pu (.int 1)) addM)) (pu [])) (setF .pub)) (pu [])) appendM))
  (pu .next)) (thenM (iteM (cmp2 (var 7) (pu (.int 2)) eqM) (thenM (dropM (lmethM (var 2) (consM (methM (var 0) (consM (var 1) (pu [])) (setF .enc)) (pu [])) appendM))
  (pu .next)) (thenM (iteM (cmp2 (var 7) (pu (.int 3)) eqM) (thenM (dropM (lmethM (var 2) (consM (methM (var 0) (consM (bin2 (iteM (cmp2 (var 6) (pu .none) isM) (pu (.str "")) (var 6)) (bd (consM (bin2 (var 4) (pu (.int 0)) item2M) (pu [])) chrM) addM) (pu [])) (setF .chr)) (pu [])) appendM))
  (pu .next)) (thenM (dropM (lmethM (var 2) (consM (methM (var 0) (consM (bin2 (bd (consM (var 4) (pu [])) lenBM) (pu (.int 1)) subM) (pu [])) (setF .sys)) (pu [])) appendM))
  (pu .next)))
  (pu .next)))
  (pu .next)))
  (pu .next)))
  (pu .next))
noncomputable def B_law_taken : Cm AF := thenM (asgM (bd (consM (methM (var 0) (pu []) (getF .byt)) (consM (methM (var 0) (pu []) (getF .pub)) (consM (methM (var 0) (pu []) (getF .chr)) (pu [])))) tupM) (swapM 3 (consA (setV 6) (consA (setV 5) (consA (setV 4) (nilA))))))
  (thenM (asgM (bd (pu []) newLob) (setV 2))
  (thenM (forM' (bd (consM (pu (.int 5)) (pu [])) rangeM) sizeL nxL (setV 3) (B_law_taken_1))
  (thenM (retM (var 2))
  (pu .next))))
noncomputable def F_law_taken : List AV → Cm AV := runFn 2 6 B_law_taken
theorem k_law_taken (G : Gd (cx w h0 mg mb)) (hB : ∀ x : Str, x ≠ "__name__" → mb x = bootBuiltins x) : ImplF (cx w h0 mg mb) (n + 2) 134 F_law_taken :=
  fn_ok (names := ["source", "turn"]) (others := ["answers", "k", "octets", "count", "text", "field"]) (g := B_law_taken) G ⟨⟨_, _, _, by show List.lookup 134 (hd06.heap_39 w.params) = _; k_is⟩, rfl, rfl, rfl, rfl, by show codeIn (hd06.heap_39 w.params) _ _ = true; k_is, rfl, rfl, rfl, by exact two_of fun _ _ => rfl, by decide +kernel, by decide +kernel⟩
  (ImplS.cons (ImplS1.swapped (names := ["octets", "count", "text"]) (ImplE.tuple (ImplEs.cons (ImplE.meth G cls m_getByteStream (ImplE.name (i := 0) rfl (by decide +kernel)) (ImplEs.nil) (f_getByteStream G)) (ImplEs.cons (ImplE.meth G cls m_getPublicId (ImplE.name (i := 0) rfl (by decide +kernel)) (ImplEs.nil) (f_getPublicId G)) (ImplEs.cons (ImplE.meth G cls m_getCharacterStream (ImplE.name (i := 0) rfl (by decide +kernel)) (ImplEs.nil) (f_getCharacterStream G)) (ImplEs.nil))))) rfl (ImplN.cons (i := 6) rfl rfl (ImplN.cons (i := 5) rfl rfl (ImplN.cons (i := 4) rfl rfl (ImplN.nil)))))
  (ImplS.cons (ImplS1.assign (ImplE.listMut (ImplEs.nil)) (ImplA.name (i := 2) rfl rfl))
  (ImplS.cons (ImplS1.for (size := sizeL) (gt := goesT) (ImplI.range G rfl (g_range G hB) (ImplEs.cons (ImplE.cint) (ImplEs.nil))) (ImplA.name (i := 3) rfl rfl) (ImplS.cons (ImplS1.assign (ImplE.bin (ImplE.bin (ImplE.name (i := 1) rfl (by decide +kernel)) (ImplE.name (i := 3) rfl (by decide +kernel)) add_ok) (ImplE.cint) mod_ok) (ImplA.name (i := 7) rfl rfl))
  (ImplS.cons (ImplS1.ite (ImplT.cmp (ImplE.name (i := 7) rfl (by decide +kernel)) (ImplE.cint) eq_ok) (ImplS.cons (ImplS1.expr (ImplE.lmeth PySem.F.slot_list_append rfl (ImplE.name (i := 2) rfl (by decide +kernel)) (ImplEs.cons (ImplE.meth G cls m_setByteStream (ImplE.name (i := 0) rfl (by decide +kernel)) (ImplEs.cons (ImplE.cut (ImplE.name (i := 4) rfl (by decide +kernel)) (ImplP.some (ImplE.cint))) (ImplEs.nil)) (f_setByteStream G)) (ImplEs.nil)) append_ok))
  (ImplS.nil)) (ImplS.cons (ImplS1.ite (ImplT.cmp (ImplE.name (i := 7) rfl (by decide +kernel)) (ImplE.cint) eq_ok) (ImplS.cons (ImplS1.expr (ImplE.lmeth PySem.F.slot_list_append rfl (ImplE.name (i := 2) rfl (by decide +kernel)) (ImplEs.cons (ImplE.meth G cls m_setPublicId (ImplE.name (i := 0) rfl (by decide +kernel)) (ImplEs.cons (ImplE.ifexp (ImplT.cmp (ImplE.name (i := 5) rfl (by decide +kernel)) (ImplE.cnone) is_ok) (ImplE.cint) (ImplE.bin (ImplE.name (i := 5) rfl (by decide +kernel)) (ImplE.cint) add_ok)) (ImplEs.nil)) (f_setPublicId G)) (ImplEs.nil)) append_ok))
  (ImplS.nil)) (ImplS.cons (ImplS1.ite (ImplT.cmp (ImplE.name (i := 7) rfl (by decide +kernel)) (ImplE.cint) eq_ok) (ImplS.cons (ImplS1.expr (ImplE.lmeth PySem.F.slot_list_append rfl (ImplE.name (i := 2) rfl (by decide +kernel)) (ImplEs.cons (ImplE.meth G cls m_setEncoding (ImplE.name (i := 0) rfl (by decide +kernel)) (ImplEs.cons (ImplE.name (i := 1) rfl (by decide +kernel)) (ImplEs.nil)) (f_setEncoding G)) (ImplEs.nil)) append_ok))
  (ImplS.nil)) (ImplS.cons (ImplS1.ite (ImplT.cmp (ImplE.name (i := 7) rfl (by decide +kernel)) (ImplE.cint) eq_ok) (ImplS.cons (ImplS1.expr (ImplE.lmeth PySem.F.slot_list_append rfl (ImplE.name (i := 2) rfl (by decide +kernel)) (ImplEs.cons (ImplE.meth G cls m_setCharacterStream (ImplE.name (i := 0) rfl (by decide +kernel)) (ImplEs.cons (ImplE.bin (ImplE.ifexp (ImplT.cmp (ImplE.name (i := 6) rfl (by decide +kernel)) (ImplE.cnone) is_ok) (ImplE.cstr) (ImplE.name (i := 6) rfl (by decide +kernel))) (ImplE.callB G rfl (g_chr G hB) (ImplEs.cons (ImplE.item2 (ImplE.name (i := 4) rfl (by decide +kernel)) (ImplE.cint)) (ImplEs.nil)) chr_ok) add_ok) (ImplEs.nil)) (f_setCharacterStream G)) (ImplEs.nil)) append_ok))
  (ImplS.nil)) (ImplS.cons (ImplS1.expr (ImplE.lmeth PySem.F.slot_list_append rfl (ImplE.name (i := 2) rfl (by decide +kernel)) (ImplEs.cons (ImplE.meth G cls m_setSystemId (ImplE.name (i := 0) rfl (by decide +kernel)) (ImplEs.cons (ImplE.bin (ImplE.callB G rfl (g_len G hB) (ImplEs.cons (ImplE.name (i := 4) rfl (by decide +kernel)) (ImplEs.nil)) lenB_ok) (ImplE.cint) sub_ok) (ImplEs.nil)) (f_setSystemId G)) (ImplEs.nil)) append_ok))
  (ImplS.nil)))
  (ImplS.nil)))
  (ImplS.nil)))
  (ImplS.nil)))
  (ImplS.nil))))
  (ImplS.cons (ImplS1.ret (ImplE.name (i := 2) rfl (by decide +kernel)))
  (ImplS.nil)))))
noncomputable def S1_11 : Cm AF := retM (boolV (cmp2 (var 4) (bin2 (bd (consM (pu .none) (pu [])) lstM) (bd (consM (var 4) (pu [])) lenBM) mulLM) eqM))
noncomputable def S3_1 : Cm AF := retM (pu (.bool false))
noncomputable def B_law_1 : Cm AF := thenM (S3_1)
  (pu .next)
noncomputable def S2_4 : Cm AF := iteM (cmp2 (bd (consM (bin2 (var 3) (var 8) item2M) (pu [])) (callM F_law_told)) (var 10) neM) (B_law_1) (pu .next)
noncomputable def C_law_1 : Cm AV := compN 1 [] (bd (bin2 (var 1) (var 8) item2M) anyIt) sizeA nxA (setV 0) (pu true) (emit1 (bd (consM (var 0) (pu [])) chrM))
noncomputable def S4_1 : Cm AF := asgM (bd (consM (pu (.int 0)) (consM (bd (consM (var 9) (pu [])) lenBM) (consM (bin2 (var 9) (negM (pu (.int 1))) item2M) (consM (pu (.bytes (List.toArray []))) (consM (joinM (pu (.str "")) (consM (frzE (C_law_1)) (pu []))) (pu [])))))) lstM) (setV 10)
noncomputable def B_law_2 : Cm AF := thenM (S4_1)
  (pu .next)
noncomputable def S2_3 : Cm AF := iteM (cmp2 (var 9) (bd (pu []) lstM) neM) (B_law_2) (pu .next)
noncomputable def S2_2 : Cm AF := asgM (bd (consM (bin2 (var 2) (var 8) item2M) (consM (pu .none) (consM (pu .none) (consM (pu (.bytes (List.toArray []))) (consM (pu .none) (pu [])))))) lstM) (setV 10)
noncomputable def C_law_2 : Cm AV := compN 1 [8, 5] (bd (consM (bd (consM (var 5) (pu [])) lenBM) (pu [])) rangeM) sizeL nxL (setV 0) (cmp2 (bin2 (bin2 (var 2) (var 0) item2M) (pu (.int 1)) item2M) (var 1) eqM) (emit1 (var 0))
noncomputable def S2_1 : Cm AF := frzS 9 (asgM (C_law_2) (setV 9))
noncomputable def B_law_3 : Cm AF := thenM (S2_1)
  (thenM (S2_2)
  (thenM (S2_3)
  (thenM (S2_4)
  (pu .next))))
noncomputable def S1_10 : Cm AF := forM' (bd (bd (consM (pu (.int 0)) (consM (pu (.int 1)) (consM (pu (.int 2)) (consM (pu (.int 3)) (consM (pu (.int 3)) (consM (pu (.int 2)) (consM (pu (.int 1)) (consM (pu (.int 0)) (pu []))))))))) lstM) lstIt) sizeL nxL (setV 8) (B_law_3)
noncomputable def S5_1 : Cm AF := retM (pu (.bool false))
noncomputable def B_law_4 : Cm AF := thenM (S5_1)
  (pu .next)
noncomputable def S1_9 : Cm AF := iteM (cmp2 (var 6) (var 5) neM) (B_law_4) (pu .next)
noncomputable def S6_3 : Cm AF := dropM (lmethM (var 4) (consM (bd (consM (bin2 (var 3) (var 8) item2M) (consM (var 7) (pu []))) (callM F_law_taken)) (pu [])) extendM)
noncomputable def S6_2 : Cm AF := dropM (lmethM (var 6) (consM (bd (consM (bin2 (methM (bin2 (var 3) (var 8) item2M) (pu []) (getF .byt)) (pu (.int 0)) item2M) (consM (var 8) (pu []))) tupM) (pu [])) appendM)
noncomputable def S6_1 : Cm AF := asgM (bd (consM (var 3) (pu [])) (callM F_law_least)) (setV 8)
noncomputable def B_law_5 : Cm AF := thenM (S6_1)
  (thenM (S6_2)
  (thenM (S6_3)
  (pu .next)))
noncomputable def S1_8 : Cm AF := forM' (bd (consM (bd (consM (var 5) (pu [])) lenBM) (pu [])) rangeM) sizeL nxL (setV 7) (B_law_5)
noncomputable def S1_7 : Cm AF := asgM (bd (pu []) newLob) (setV 6)
noncomputable def C_law_3 : Cm AV := compN 2 [1] (bd (consM (pu (.int 4)) (pu [])) rangeM) sizeL nxL (setV 0) (pu true) (emit2 (bd (bin2 (var 2) (var 0) item2M) anyIt) sizeA nxA (setV 1) (pu true) (bd (consM (var 1) (consM (var 0) (pu []))) tupM))
noncomputable def S1_6 : Cm AF := asgM (bd (consM (frzE (C_law_3)) (pu [])) sortedM) (setV 5)
noncomputable def C_law_4 : Cm AV := compN 2 [] (bd (consM (var 3) (consM (var 1) (pu []))) zip2It) size2 nx2 (unpackM 2 (consA (setV 0) (consA (setV 1) (nilA)))) (pu true) (emit1 (methM (var 0) (consM (bd (consM (var 1) (pu [])) bytesM) (pu [])) (setF .byt)))
noncomputable def S1_5 : Cm AF := asgM (C_law_4) (setV 4)
noncomputable def C_law_5 : Cm AV := compN 1 [] (bd (var 3) anyIt) sizeA nxA (setV 0) (pu true) (emit1 (bd (consM (var 0) (pu [])) (callM F_law_told)))
noncomputable def C_law_6 : Cm AV := compN 1 [] (bd (var 2) anyIt) sizeA nxA (setV 0) (pu true) (emit1 (bd (consM (var 0) (consM (pu .none) (consM (pu .none) (consM (pu .none) (consM (pu .none) (pu [])))))) lstM))
noncomputable def S7_1 : Cm AF := retM (pu (.bool false))
noncomputable def B_law_6 : Cm AF := thenM (S7_1)
  (pu .next)
noncomputable def S1_4 : Cm AF := iteM (orM (cmp2 (frzE (C_law_5)) (frzE (C_law_6)) neM) (orM (notM (bd (bd (consM (bin2 (var 3) (pu (.int 0)) item2M) (pu [])) (callM F_law_washed)) truthM)) (pu false))) (B_law_6) (pu .next)
noncomputable def S1_3 : Cm AF := asgM (bd (consM (bd (pu []) newM) (consM (bd (consM (pu (.str "")) (pu [])) newM) (consM (bd (consM (pu (.str "b")) (pu [])) newM) (consM (bd (consM (pu (.str "c")) (pu [])) newM) (pu []))))) lstM) (setV 3)
noncomputable def S1_2 : Cm AF := asgM (bd (consM (pu .none) (consM (pu (.str "")) (consM (pu (.str "b")) (consM (pu (.str "c")) (pu []))))) lstM) (setV 2)
noncomputable def C_law_7 : Cm AV := compN 1 [0] (bd (bin2 (bd (consM (pu (.int 32)) (consM (pu (.int 10)) (consM (pu (.int 0)) (consM (pu (.int 34)) (consM (pu (.int 4)) (pu [])))))) lstM) (var 1) addM) lstIt) sizeL nxL (setV 0) (cmp2 (bin2 (var 0) (pu (.int 4)) modM) (var 1) eqM) (emit1 (bin2 (bin2 (var 0) (pu (.int 4)) divM) (pu (.int 256)) modM))
noncomputable def C_law_8 : Cm AV := compN 1 [0] (bd (consM (pu (.int 4)) (pu [])) rangeM) sizeL nxL (setV 0) (pu true) (emit1 (bd (consM (frzE (C_law_7)) (pu [])) sortedM))
noncomputable def S1_1 : Cm AF := asgM (frzE (C_law_8)) (setV 1)
noncomputable def B_law : Cm AF := thenM (S1_1)
  (thenM (S1_2)
  (thenM (S1_3)
  (thenM (S1_4)
  (thenM (S1_5)
  (thenM (S1_6)
  (thenM (S1_7)
  (thenM (S1_8)
  (thenM (S1_9)
  (thenM (S1_10)
  (thenM (S1_11)
  (pu .next)))))))))))
noncomputable def V_law : List Str := ["script", "rows", "begun", "sources", "answers", "pairs", "merged", "turn", "k", "turns", "due"]
/- the law: level 3 -/
end

set_option linter.unusedSimpArgs false
theorem then_next {f g : Cm AF} {st st1 : AS} (h : f st = some (.next, st1)) : thenM f g st = g st1 := by rw [thenM, bd, h]
theorem then_ret {f g : Cm AF} {st st1 : AS} {v : AV} (h : f st = some (.ret v, st1)) : thenM f g st = some (.ret v, st1) := by rw [thenM, bd, h]; rfl
theorem ite_t {α : Type} {t : Cm Bool} {f g : Cm α} {st st1 : AS} (h : t st = some (true, st1)) : iteM t f g st = f st1 := by rw [iteM, bd, h]; rfl
theorem ite_f {α : Type} {t : Cm Bool} {f g : Cm α} {st st1 : AS} (h : t st = some (false, st1)) : iteM t f g st = g st1 := by rw [iteM, bd, h]; rfl
theorem bd_is {α β : Type} {f : Cm α} {g : α → Cm β} {st st1 : AS} {a : α} (h : f st = some (a, st1)) : bd f g st = g a st1 := by rw [bd, h]
theorem eqAll_nones (st : AS) : ∀ (xs : List AV), (∀ x ∈ xs, x = .none) → eqAll (eqF st 7) xs (List.replicate xs.length .none) = some true
  | [], _ => rfl
  | x :: xs, h => by
    have hx : x = .none := h x List.mem_cons_self
    have ih := eqAll_nones st xs (fun y hy => h y (List.mem_cons_of_mem _ hy))
    subst hx
    have e : eqF st 7 .none .none = some true := rfl
    rw [List.length_cons, List.replicate_succ]
    simp [eqAll, e, ih]
theorem frzE_is {f : Cm AV} {st st1 : AS} {N : Nat} {ys : List AV} (h : f { st with lst := [] :: st.lst } = some (.lob N, { st1 with lst := [(N, ys)] :: st.lst })) : frzE f st = some (.lst ys, { st1 with lst := st.lst }) := by
  unfold frzE; rw [h]; simp [frzV, frz0, lookL]
theorem forG_next {σ : Type} {nx : σ → AS → Option (Option (AV × σ))} {tgt : AV → Cm Unit} {body : Cm AF} {m : Nat} {i i' : σ} {x : AV} {st : AS} (h : nx i st = some (some (x, i'))) : forG nx tgt body (m + 1) i st = (bd (tgt x) fun _ => thenM body (forG nx tgt body m i')) st := by
  rw [forG]; simp only [h]
theorem forL_cons {tgt : AV → Cm Unit} {body : Cm AF} {x : AV} {xs : List AV} {k : Nat} {st st1 st2 : AS} (h1 : tgt x st = some ((), st1)) (h2 : body st1 = some (.next, st2)) : forG nxL tgt body (k + 1) (x :: xs) st = forG nxL tgt body k xs st2 := by
  rw [forG_next (i' := xs) (x := x) rfl, bd_is h1, then_next h2]
theorem forL_is {f : Cm (List AV)} {tgt : AV → Cm Unit} {body : Cm AF} {xs : List AV} {st st1 : AS} {R : Option (AF × AS)} (h1 : f st = some (xs, st1)) (h2 : forG nxL tgt body (xs.length + 1) xs st1 = R) : forM' f sizeL nxL tgt body st = R := by
  rw [forM', bd_is h1]; exact h2
theorem item_lst {k : Nat} {xs : List AV} {v : AV} (hl : xs.length ≤ 100000) (hx : xs[k]? = some v) (st : AS) : getItemM (.lst xs) (.int (k : Int)) st = some (v, st) := by
  simp [getItemM, AV.int?, itemsM, hl, idxM, hx]
theorem call_ret {k m : Nat} {g : Cm AF} {xs : List AV} {loc l' : List AV} {ins ins' : List Ins} {L L' : LH} {N N' : Nat} {v : AV} {seg : List (Nat × List AV)} (hx : xs.length = k) (h : g ⟨xs ++ List.replicate m .unb, ins, [] :: L, N⟩ = some (.ret v, ⟨l', ins', seg :: L', N'⟩)) :
    callM (runFn k m g) xs ⟨loc, ins, L, N⟩ = some (frzV seg v, ⟨loc, ins', L', N'⟩) := by
  simp only [callM, runFn, runFnG, hx, if_true, h, endFn]/-! the plain law: four rows -/
noncomputable def upd {α : Type} (f : Nat → α) (k : Nat) (v : α) : Nat → α := fun i => if i = k then v else f i
theorem upd_at {α : Type} (f : Nat → α) (k : Nat) (v : α) : upd f k v k = v := if_pos rfl
theorem upd_ne {α : Type} (f : Nat → α) {k i : Nat} (v : α) (h : i ≠ k) : upd f k v i = f i := if_neg h
theorem upd_upd {α : Type} (f : Nat → α) (k : Nat) (v w : α) : upd (upd f k v) k w = upd f k w := by
  funext i
  unfold upd
  split <;> rfl
theorem asg_is {f : Cm AV} {g : AV → Cm Unit} {st st1 st2 : AS} {v : AV} (h1 : f st = some (v, st1)) (h2 : g v st1 = some ((), st2)) : asgM f g st = some (.next, st2) := by rw [asgM, bd_is h1, bd_is h2]; rfl
theorem drop_is {f : Cm AV} {st st1 : AS} {v : AV} (h1 : f st = some (v, st1)) : dropM f st = some (.next, st1) := by rw [dropM, bd_is h1]; rfl
theorem items_no {x : AV} {st : AS} {r : List AV × AS} (h : itemsM x st = some r) : x.sc = .none ∧ x.tup? = .none := by
  cases x <;> first | exact ⟨rfl, rfl⟩ | cases h
theorem eq_lists {st : AS} {d : Nat} {x y : AV} {xs ys : List AV} {q1 q2 : AS} (hx : itemsM x st = some (xs, q1)) (hy : itemsM y st = some (ys, q2)) : eqF st (d + 1) x y = if xs.length = ys.length then eqAll (eqF st d) xs ys else some false := by
  rw [eqF]; simp only [(items_no hx).1, (items_no hx).2, hx, hy]
theorem cons_is {f : Cm AV} {st st1 : AS} {v : AV} (h1 : f st = some (v, st1)) : consM f (pu []) st = some ([v], st1) := by rw [consM, bd_is h1]; rfl
theorem app_is {o : Nat} {xs : List AV} {v : AV} {L : LH} (h : getL1 o L = some xs) (hl : xs.length ≤ 90000) (loc : List AV) (I : List Ins) (N : Nat) : appendM (.lob o) [v] ⟨loc, I, L, N⟩ = some (.none, ⟨loc, I, putL1 o (xs ++ [v]) L, N⟩) := by
  simp only [appendM, h]
  rw [if_pos (by omega)]
theorem ext_is {o : Nat} {xs ys : List AV} {L : LH} (h : getL1 o L = some xs) (hl : xs.length + ys.length ≤ 90000) (loc : List AV) (I : List Ins) (N : Nat) : extendM (.lob o) [.lst ys] ⟨loc, I, L, N⟩ = some (.none, ⟨loc, I, putL1 o (xs ++ ys) L, N⟩) := by
  simp only [extendM, h, itemsM]
  rw [if_pos (by omega)]
theorem lmeth_is {fo fx : Cm AV} {F : AV → List AV → Cm AV} {st st1 st2 : AS} {o : Nat} {xs : List AV} {v w : AV} (h0 : fo st = some (.lob o, st)) (hc : getL1 o st.lst = some xs) (h1 : fx st = some (v, st1)) (h2 : F (.lob o) [v] st1 = some (w, st2)) : lmethM fo (consM fx (pu [])) F st = some (w, st2) := by
  rw [lmethM, bd_is h0, bd_is (st1 := st) (a := ()) (by simp only [chkL, itemsM, hc]), bd_is (cons_is h1)]
  exact h2
theorem meth_is {fo : Cm AV} {fs : Cm (List AV)} {F : List AV → Cm AV} {st st1 st2 : AS} {k : Nat} {ys : List AV} {w : AV} (h0 : fo st = some (.ins k, st)) (h1 : fs st = some (ys, st1)) (h2 : callM F (.ins k :: ys) st1 = some (w, st2)) : methM fo fs F st = some (w, st2) := by
  rw [methM, bd_is h0]
  exact (bd_is h1).trans h2
theorem and_t {f g : Cm Bool} {st st1 : AS} (h : f st = some (true, st1)) : andM f g st = g st1 := by rw [andM, bd_is h]; rfl
theorem and_f {f g : Cm Bool} {st st1 : AS} (h : f st = some (false, st1)) : andM f g st = some (false, st1) := by rw [andM, bd_is h]; rfl
theorem or_t {f g : Cm Bool} {st st1 : AS} (h : f st = some (true, st1)) : orM f g st = some (true, st1) := by rw [orM, bd_is h]; rfl
theorem or_f {f g : Cm Bool} {st st1 : AS} (h : f st = some (false, st1)) : orM f g st = g st1 := by rw [orM, bd_is h]; rfl
noncomputable def nums (l : List Nat) : List AV := l.map fun (n : Nat) => AV.int (n : Int)
noncomputable def nones (xs : List AV) : Prop := ∀ x ∈ xs, x = AV.none
theorem nones_app {xs ys : List AV} (h : nones xs) (k : nones ys) : nones (xs ++ ys) := fun x hx => by
  rcases List.mem_append.mp hx with q | q
  · exact h x q
  · exact k x q
noncomputable def L4 {α : Type} (f : Nat → α) : List α := [f 0, f 1, f 2, f 3]
theorem four {k : Nat} (h : k < 4) : k = 0 ∨ k = 1 ∨ k = 2 ∨ k = 3 := by omega
theorem L4_at {α : Type} (f : Nat → α) {k : Nat} (h : k < 4) : (L4 f)[k]? = some (f k) := by rcases four h with rfl | rfl | rfl | rfl <;> rfl
theorem L4_set {α : Type} (f : Nat → α) {k : Nat} (h : k < 4) (v : α) : (L4 f).set k v = L4 (upd f k v) := by rcases four h with rfl | rfl | rfl | rfl <;> rfl
theorem set_is {k : Nat} (g : Nat → Ins) (hk : k < 4) (f : Fd) (v : AV) (loc : List AV) (L : LH) (N : Nat) : callM (setF f) [.ins k, v] ⟨loc, L4 g, L, N⟩ = some (.none, ⟨loc, L4 (upd g k ((g k).put v f)), L, N⟩) := by
  simp only [callM, setF, bd, putM, L4_at g hk, L4_set g hk, pu]
theorem get_is {k : Nat} (g : Nat → Ins) (hk : k < 4) (f : Fd) (loc : List AV) (L : LH) (N : Nat) : callM (getF f) [.ins k] ⟨loc, L4 g, L, N⟩ = some ((g k).get f, ⟨loc, L4 g, L, N⟩) := by
  simp only [callM, getF, attrM, L4_at g hk]
/-! the least at the front -/
noncomputable def row (r : Nat → List Nat) (k : Nat) : List (Int × Int) := (r k).map fun (o : Nat) => ((o : Int), (k : Int))
noncomputable def allP (r : Nat → List Nat) : List (Int × Int) := [0, 1, 2, 3].flatMap (row r)
noncomputable def stepB (r : Nat → List Nat) (k : Nat) (b : Option Nat) : Option Nat := match r k with
  | [] => b
  | h :: _ => (match b with
    | .none => some k
    | some j => if h < (r j).headD 0 then some k else some j)
noncomputable def bestB (r : Nat → List Nat) : Option Nat := stepB r 3 (stepB r 2 (stepB r 1 (stepB r 0 .none)))
/-- the best of the first m -/
noncomputable def Bst (r : Nat → List Nat) (m : Nat) : Option Nat → Prop
  | .none => ∀ j, j < m → r j = []
  | some k => k < m ∧ ∃ h tl, r k = h :: tl ∧ ∀ j, j < m → ∀ a s, r j = a :: s → h < a ∨ (h = a ∧ k ≤ j)
theorem stepB_ok {r : Nat → List Nat} {m : Nat} {b : Option Nat} (B : Bst r m b) : Bst r (m + 1) (stepB r m b) := by
  have lt : ∀ {j}, j < m + 1 → j < m ∨ j = m := fun h => Nat.lt_succ_iff_lt_or_eq.mp h
  unfold stepB
  cases q : r m with
  | nil =>
    cases b with
    | none => exact fun j hj => (lt hj).elim (B j) fun e => e ▸ q
    | some k =>
      obtain ⟨h1, h, tl, h2, h3⟩ := B
      exact ⟨Nat.lt_succ_of_lt h1, h, tl, h2, fun j hj a s e => (lt hj).elim (fun hj => h3 j hj a s e) fun z => by rw [z, q] at e; cases e⟩
  | cons h tl =>
    cases b with
    | none => exact ⟨Nat.lt_succ_self _, h, tl, q, fun j hj a s e => (lt hj).elim (fun hj => by rw [B j hj] at e; cases e) fun z => by
        rw [z, q] at e; cases e; exact .inr ⟨rfl, Nat.le_of_eq z.symm⟩⟩
    | some k =>
      obtain ⟨h1, h', tl', h2, h3⟩ := B
      dsimp only
      rw [h2, List.headD_cons]
      by_cases c : h < h'
      · rw [if_pos c]
        exact ⟨Nat.lt_succ_self _, h, tl, q, fun j hj a s e => (lt hj).elim (fun hj => .inl (by have := h3 j hj a s e; omega)) fun z => by
          rw [z, q] at e; cases e; exact .inr ⟨rfl, Nat.le_of_eq z.symm⟩⟩
      · rw [if_neg c]
        exact ⟨Nat.lt_succ_of_lt h1, h', tl', h2, fun j hj a s e => (lt hj).elim (fun hj => h3 j hj a s e) fun z => by
          rw [z, q] at e; cases e; omega⟩
theorem bestB_ok (r : Nat → List Nat) : Bst r 4 (bestB r) := stepB_ok (stepB_ok (stepB_ok (stepB_ok fun _ h => absurd h (Nat.not_lt_zero _))))
theorem row_upd {r : Nat → List Nat} {k j : Nat} {l : List Nat} (h : j ≠ k) : row (upd r k l) j = row r j := by unfold row; rw [upd_ne _ _ h]
theorem rows_perm {r : Nat → List Nat} {k h : Nat} {tl : List Nat} (e : r k = h :: tl) : ∀ ks : List Nat, ks.Nodup → k ∈ ks → (ks.flatMap (row r)).Perm (((h : Int), (k : Int)) :: ks.flatMap (row (upd r k tl)))
  | [], _, hm => by cases hm
  | j :: js, nd, hm => by
    obtain ⟨n1, n2⟩ := List.nodup_cons.mp nd
    rw [List.flatMap_cons, List.flatMap_cons]
    by_cases q : j = k
    · subst q
      have e1 : js.flatMap (row (upd r j tl)) = js.flatMap (row r) := by
        unfold List.flatMap
        exact congrArg List.flatten (List.map_congr_left fun i hi => row_upd fun z => n1 (z ▸ hi))
      have e2 : row r j = ((h : Int), (j : Int)) :: row (upd r j tl) j := by unfold row; rw [e, upd_at]; rfl
      rw [e1, e2]
      exact List.Perm.refl _
    · rw [row_upd q]
      have hk : k ∈ js := (List.mem_cons.mp hm).resolve_left fun z => q z.symm
      exact ((rows_perm e js n2 hk).append_left _).trans List.perm_middle
theorem mem_allP {r : Nat → List Nat} {p : Int × Int} (h : p ∈ allP r) : ∃ k o, k < 4 ∧ o ∈ r k ∧ p = ((o : Int), (k : Int)) := by
  obtain ⟨k, hk, hp⟩ := List.mem_flatMap.mp h
  obtain ⟨o, ho, rfl⟩ := List.mem_map.mp hp
  refine ⟨k, o, ?_, ho, rfl⟩
  simp at hk; omega
/-- the pairs in order, by the least at the front -/
theorem sorted_step {r : Nat → List Nat} (hs : ∀ k, (r k).Pairwise (· ≤ ·)) {k : Nat} (hb : bestB r = some k) : k < 4 ∧ ∃ h tl, r k = h :: tl ∧ sortP (allP r) = ((h : Int), (k : Int)) :: sortP (allP (upd r k tl)) := by
  have B := bestB_ok r
  rw [hb] at B
  obtain ⟨h1, h, tl, h2, h3⟩ := B
  refine ⟨h1, h, tl, h2, ?_⟩
  have hp : (allP r).Perm (((h : Int), (k : Int)) :: allP (upd r k tl)) := rows_perm h2 _ (by decide) (by rcases four h1 with rfl | rfl | rfl | rfl <;> decide)
  refine (sortP_is ((List.Perm.cons _ (List.mergeSort_perm _ _)).trans hp.symm) (List.pairwise_cons.mpr ⟨fun p hp' => ?_, List.pairwise_mergeSort lexLe_trans lexLe_tot _⟩)).symm
  have hm : p ∈ allP r := hp.mem_iff.mpr (List.mem_cons_of_mem _ ((List.mergeSort_perm _ _).mem_iff.mp hp'))
  obtain ⟨j, o, hj, ho, rfl⟩ := mem_allP hm
  unfold lexLe
  rw [Bool.not_eq_true', lexB_not]
  cases q : r j with
  | nil => rw [q] at ho; cases ho
  | cons a s =>
    have g := h3 j hj a s q
    have : a ≤ o := by
      rw [q] at ho
      rcases List.mem_cons.mp ho with rfl | ho
      · exact Nat.le_refl _
      · have := hs j; rw [q] at this; exact (List.pairwise_cons.mp this).1 o ho
    dsimp only
    omega
theorem sorted_none {r : Nat → List Nat} (hb : bestB r = .none) : (∀ k, k < 4 → r k = []) := by
  have B := bestB_ok r
  rw [hb] at B
  exact B
/-! the turns of a source -/
noncomputable def turnsOf (M : List (Int × Int)) (j : Nat) : List Nat := (List.range M.length).filter fun i => decide ((M.getD i (0, 0)).2 = (j : Int))
theorem turns_snoc (M : List (Int × Int)) (p : Int × Int) (j : Nat) : turnsOf (M ++ [p]) j = turnsOf M j ++ if p.2 = (j : Int) then [M.length] else [] := by
  unfold turnsOf
  rw [List.length_append, List.length_singleton, List.range_succ, List.filter_append]
  refine congr (congrArg _ (List.filter_congr fun i hi => ?_)) ?_
  · have := List.mem_range.mp hi
    simp [List.getD_eq_getElem?_getD, List.getElem?_append_left this]
  · simp [List.filter_cons]
--@@
/-! comprehensions -/
noncomputable def Wlk {σ : Type} (nx : σ → AS → Option (Option (AV × σ))) (ok : AS → Prop) : List AV → σ → Prop
  | [], i => ∀ st, ok st → nx i st = some .none
  | x :: xs, i => ∃ i', (∀ st, ok st → nx i st = some (some (x, i'))) ∧ Wlk nx ok xs i'
theorem wlk_L (ok : AS → Prop) : ∀ xs : List AV, Wlk nxL ok xs xs
  | [] => fun _ _ => rfl
  | x :: xs => ⟨xs, fun _ _ => rfl, wlk_L ok xs⟩
theorem wlk_A {ok : AS → Prop} {X : AV} {zs : List AV} (h : ∀ st, ok st → itemsM X st = some (zs, st)) : ∀ d i, i + d = zs.length → Wlk nxA ok (zs.drop i) (X, i)
  | 0, i, e => by
    rw [List.drop_eq_nil_of_le (by omega)]
    intro st hs
    simp only [nxA, h st hs, List.getElem?_eq_none (show zs.length ≤ i by omega)]
  | d + 1, i, e => by
    rw [List.drop_eq_getElem_cons (by omega)]
    exact ⟨(X, i + 1), fun st hs => by simp only [nxA, h st hs, List.getElem?_eq_getElem (show i < zs.length by omega)], wlk_A h d (i + 1) (by omega)⟩
section
variable {σ : Type} {nx : σ → AS → Option (Option (AV × σ))} {tgt : AV → Cm Unit} {ft : Cm Bool} {fm : Cm Unit} {fe : Cm AV} {I : List Ins} {L : LH} {M : Nat}
noncomputable def cst (I : List Ins) (L : LH) (M : Nat) (loc ys : List AV) : AS := ⟨loc, I, [(M, ys)] :: L, M + 1⟩
/-- what one item does -/
noncomputable def Item (B : Nat) (tgt : AV → Cm Unit) (ft : Cm Bool) (fm : Cm Unit) (I : List Ins) (L : LH) (M : Nat) (R : List AV → Prop) (V : AV → List AV) (x : AV) : Prop := ∀ loc ys, R loc → ys.length ≤ B → ∃ loc1, tgt x (cst I L M loc ys) = some ((), cst I L M loc1 ys) ∧
  ((ft (cst I L M loc1 ys) = some (false, cst I L M loc1 ys) ∧ V x = [] ∧ R loc1) ∨ (ft (cst I L M loc1 ys) = some (true, cst I L M loc1 ys) ∧ ∃ loc2, R loc2 ∧ fm (cst I L M loc1 ys) = some ((), cst I L M loc2 (ys ++ V x))))
theorem clo_walk {B : Nat} {R : List AV → Prop} {V : AV → List AV} : ∀ {xs : List AV} {i : σ} {loc ys : List AV}, Wlk nx (fun st => ∃ loc ys, st = cst I L M loc ys) xs i → (∀ x ∈ xs, Item B tgt ft fm I L M R V x) → R loc → ys.length + (xs.flatMap V).length ≤ B →
    ∃ loc', R loc' ∧ cloG nx tgt ft fm (xs.length + 1) i (cst I L M loc ys) = some ((), cst I L M loc' (ys ++ xs.flatMap V))
  | [], i, loc, ys, hw, _, hR, _ => ⟨loc, hR, by
    rw [cloG]; simp only [hw _ ⟨loc, ys, rfl⟩, List.flatMap_nil, List.append_nil]⟩
  | x :: xs, i, loc, ys, ⟨i', hw, hw'⟩, h, hR, hl => by
    rw [List.flatMap_cons, List.length_append] at hl
    have hx := hw _ ⟨loc, ys, rfl⟩
    obtain ⟨loc1, e1, h1⟩ := h x List.mem_cons_self loc ys hR (by omega)
    have step : cloG nx tgt ft fm ((x :: xs).length + 1) i (cst I L M loc ys) = (bd (tgt x) fun _ => bd ft fun ok => if ok then (bd fm fun _ => cloG nx tgt ft fm (xs.length + 1) i') else cloG nx tgt ft fm (xs.length + 1) i') (cst I L M loc ys) := by
      rw [List.length_cons, cloG]; simp only [hx]
    rw [step, List.flatMap_cons]
    rcases h1 with ⟨e2, hv, hR1⟩ | ⟨e2, loc2, hR2, e3⟩
    · obtain ⟨loc', hR', e⟩ := clo_walk (loc := loc1) (ys := ys) hw' (fun y hy => h y (List.mem_cons_of_mem _ hy)) hR1 (by omega)
      refine ⟨loc', hR', (bd_is e1).trans ((bd_is e2).trans ?_)⟩
      rw [hv, List.nil_append]
      exact e
    · obtain ⟨loc', hR', e⟩ := clo_walk (loc := loc2) (ys := ys ++ V x) hw' (fun y hy => h y (List.mem_cons_of_mem _ hy)) hR2 (by rw [List.length_append]; omega)
      refine ⟨loc', hR', (bd_is e1).trans ((bd_is e2).trans ((bd_is e3).trans ?_))⟩
      rw [← List.append_assoc]
      exact e
theorem emit_is {loc ys : List AV} {v : AV} (h : fe (cst I L M loc ys) = some (v, cst I L M loc ys)) (hl : ys.length ≤ 90000) : emit1 fe M (cst I L M loc ys) = some ((), cst I L M loc (ys ++ [v])) := by
  have e : appendM (.lob M) [v] (cst I L M loc ys) = some (.none, cst I L M loc (ys ++ [v])) := by simp [cst, appendM, getL1, lookL, putL1, putSeg, show ys.length ≤ 100000 by omega]
  exact (bd_is h).trans ((bd_is e).trans rfl)
/-- a plain item of one clause -/
theorem item_one {B : Nat} (hB : B ≤ 90000) {R : List AV → Prop} {x v : AV} {lc : List AV} {b : Bool} (h1 : ∀ loc ys, R loc → tgt x (cst I L M loc ys) = some ((), cst I L M lc ys)) (hR : R lc) (h2 : ∀ ys, ft (cst I L M lc ys) = some (b, cst I L M lc ys)) (h3 : b = true → ∀ ys, fe (cst I L M lc ys) = some (v, cst I L M lc ys)) {V : AV → List AV} (hV : V x = if b then [v] else []) :
    Item B tgt ft (emit1 fe M) I L M R V x := fun loc ys hr hl => ⟨lc, h1 loc ys hr, by
  cases b with
  | false => exact .inl ⟨h2 ys, hV, hR⟩
  | true => exact .inr ⟨h2 ys, lc, hR, by rw [hV, if_pos rfl]; exact emit_is (h3 rfl ys) (Nat.le_trans hl hB)⟩⟩
theorem comp_is {k : Nat} {caps : List Nat} {f : Cm σ} {size : σ → AS → Nat} {fm : Nat → Cm Unit} {loc : List AV} {xs : List AV} {i : σ} {R : List AV → Prop} {V : AV → List AV} (h0 : f ⟨loc, I, [] :: L, M⟩ = some (i, ⟨loc, I, [] :: L, M⟩)) (hz : size i ⟨loc, I, [] :: L, M⟩ = xs.length + 1)
    (hw : Wlk nx (fun st => ∃ loc ys, st = cst I L M loc ys) xs i) (h : ∀ x ∈ xs, Item 5000 tgt ft (fm M) I L M R V x) (hR : R (List.replicate k .unb ++ capsL caps loc)) (hl : (xs.flatMap V).length ≤ 5000) : compN k caps f size nx tgt ft fm ⟨loc, I, [] :: L, M⟩ = some (.lob M, ⟨loc, I, [(M, xs.flatMap V)] :: L, M + 1⟩) := by
  obtain ⟨loc', _, e⟩ := clo_walk (ys := []) hw h hR (by simpa using hl)
  rw [compN, bd_is h0]
  dsimp only
  rw [hz]
  have e' : cloG nx tgt ft (fm M) (xs.length + 1) i ⟨List.replicate k .unb ++ capsL caps loc, I, pushL1 M [] ([] :: L), M + 1⟩ = _ := e
  rw [e', List.nil_append]
  rfl
end
theorem frzN {f : Cm AV} {loc ys : List AV} {I : List Ins} {L : LH} {M : Nat} (h : f ⟨loc, I, [] :: L, M⟩ = some (.lob M, ⟨loc, I, [(M, ys)] :: L, M + 1⟩)) : frzE f ⟨loc, I, L, M⟩ = some (.lst ys, ⟨loc, I, L, M + 1⟩) := frzE_is (st := ⟨loc, I, L, M⟩) (st1 := ⟨loc, I, L, M + 1⟩) h
--@@
/-! octets -/
noncomputable def bA (l : List Nat) : Array UInt8 := byteArr (l.map fun (c : Nat) => (c : Int))
theorem bA_list (l : List Nat) : (bA l).toList = l.map fun (c : Nat) => c.toUInt8 := by simp [bA, byteArr]
theorem bA_size (l : List Nat) : (bA l).size = l.length := by simp [bA, byteArr]
theorem item_bA {h : Nat} {tl : List Nat} (hh : h < 256) (hl : tl.length < 1000) (st : AS) : item2M (.bytes (bA (h :: tl))) (.int 0) st = some (.int (h : Int), st) := by
  have e : ((bA (h :: tl)).toList.getD (0 : Int).toNat 0).toNat = h := by
    rw [bA_list]
    show h.toUInt8.toNat = h
    exact Nat.mod_eq_of_lt hh
  show itemBM (bA (h :: tl)) 0 st = _
  unfold itemBM
  rw [if_pos (by rw [bA_size, List.length_cons]; omega), e]
  rfl
theorem cut_bA {fv : Cm AV} {h : Nat} {tl : List Nat} (hl : tl.length < 1000) {st : AS} (hv : fv st = some (.bytes (bA (h :: tl)), st)) : cutM fv (partM (pu (.int 1))) st = some (.bytes (bA tl), st) := by
  have e : KBy.picked (bA (h :: tl)) (some 1) .none = bA tl := by
    rw [KBc.picked_eq]
    refine Array.toList_inj.mp ?_
    rw [List.toList_toArray, bA_list, bA_list, bA_size]
    have : clipAt (h :: tl).length 1 = 1 := by rw [show (1 : Int) = ((1 : Nat) : Int) from rfl, clipAt_nat, List.length_cons]; omega
    simp only [Option.elim, this, List.map_cons, List.drop_one, List.tail_cons]
    exact List.take_of_length_le (by simp)
  refine (bd_is hv).trans ((bd_is (a := some 1) (st1 := st) rfl).trans ?_)
  show (if (bA (h :: tl)).size ≤ 100000 then pu (AV.bytes (KBy.picked (bA (h :: tl)) (some 1) .none)) else no) st = _
  rw [if_pos (by rw [bA_size, List.length_cons]; omega), e]
  rfl
theorem ne_empty (l : List Nat) (st : AS) : neM (.bytes (bA l)) (.bytes (List.toArray [])) st = some (decide (l ≠ []), st) := by
  show some (!((bA l).toList == (List.toArray [] : Array UInt8).toList), st) = _
  rw [bA_list]
  cases l <;> rfl
theorem len_bA {l : List Nat} (hl : l.length ≤ 1000) (st : AS) : lenBM [.bytes (bA l)] st = some (.int (l.length : Int), st) := by
  show (if (bA l).size ≤ 100000 then some (AV.int (bA l).size, st) else .none) = _
  rw [bA_size]
  rw [if_pos (by omega)]
noncomputable def sgn (c : Nat) : AV := .str ⟨#[c]⟩
theorem chr_is {c : Nat} (hc : c < 256) (st : AS) : chrM [.int (c : Int)] st = some (sgn c, st) := by
  simp only [chrM]
  rw [if_pos (by omega)]
  rfl
/-- what a source tells: its turns, what was taken, what is left -/
noncomputable def srcA (b : AV) (tn oc r : List Nat) : Ins := match tn.getLast? with
  | .none => ⟨b, .none, .none, .bytes (bA r), .none⟩
  | some t => ⟨.int (r.length : Nat), .int (tn.length : Nat), .int (t : Nat), .bytes (bA r), .str ⟨oc.toArray⟩⟩
theorem src_byt (b : AV) (tn oc r : List Nat) : (srcA b tn oc r).byt = .bytes (bA r) := by unfold srcA; split <;> rfl
theorem src_snoc (b : AV) (tn oc r : List Nat) (t : Nat) : srcA b (tn ++ [t]) oc r = ⟨.int (r.length : Nat), .int ((tn.length + 1 : Nat) : Nat), .int (t : Nat), .bytes (bA r), .str ⟨oc.toArray⟩⟩ := by
  unfold srcA
  rw [List.getLast?_append, List.getLast?_singleton, List.length_append, List.length_singleton]
  rfl
noncomputable def oN : Option Nat → AV
  | .none => .none
  | some k => .int (k : Int)
section
variable {g : Nat → Ins} {r : Nat → List Nat} {L : LH} {N : Nat}
theorem s_item {f : Cm AV} {i : Nat} {loc : List AV} {k : Nat} (hv : var i ⟨loc, L4 g, L, N⟩ = some (.lst (L4 AV.ins), ⟨loc, L4 g, L, N⟩)) (hf : f ⟨loc, L4 g, L, N⟩ = some (.int (k : Int), ⟨loc, L4 g, L, N⟩)) (hk : k < 4) : bin2 (var i) f item2M ⟨loc, L4 g, L, N⟩ = some (.ins k, ⟨loc, L4 g, L, N⟩) :=
  (bd_is hv).trans ((bd_is hf).trans (item_lst (by show 4 ≤ _; omega) (L4_at AV.ins hk) _))
/-- one source looked at -/
theorem least_step (hg : ∀ j, j < 4 → (g j).byt = .bytes (bA (r j))) (hr : ∀ j, j < 4 → ∀ o ∈ r j, o < 256) (hl : ∀ j, j < 4 → (r j).length < 1000) {k : Nat} (hk : k < 4) {b : Option Nat} (B : Bst r k b) (k0 x : AV) :
    B_law_least_1 ⟨[.lst (L4 AV.ins), oN b, .int (k : Int), x], L4 g, L, N⟩ = some (.next, ⟨[.lst (L4 AV.ins), oN (stepB r k b), .int (k : Int), .bytes (bA (r k))], L4 g, L, N⟩) := by
  have e1 : asgM (methM (bin2 (var 0) (var 2) item2M) (pu []) (getF .byt)) (setV 3) ⟨[.lst (L4 AV.ins), oN b, .int (k : Int), x], L4 g, L, N⟩ = some (.next, ⟨[.lst (L4 AV.ins), oN b, .int (k : Int), .bytes (bA (r k))], L4 g, L, N⟩) := by
    have g1 := get_is g hk .byt [.lst (L4 AV.ins), oN b, .int (k : Int), x] L N
    rw [show (g k).get .byt = .bytes (bA (r k)) from hg k hk] at g1
    exact asg_is (meth_is (k := k) (s_item rfl rfl hk) rfl g1) rfl
  refine (then_next e1).trans ?_
  obtain ⟨st, hst⟩ : ∃ st : AS, st = ⟨[.lst (L4 AV.ins), oN b, .int (k : Int), .bytes (bA (r k))], L4 g, L, N⟩ := ⟨_, rfl⟩
  have n1 : cmp2 (var 3) (pu (.bytes (List.toArray []))) neM st = some (decide (r k ≠ []), st) := by rw [hst]; exact (bd_is (a := AV.bytes (bA (r k))) rfl).trans ((bd_is (a := AV.bytes (List.toArray [])) rfl).trans (ne_empty (r k) _))
  rw [← hst]
  have no1 : stepB r k b = b → ∀ t : Cm Bool, t st = some (false, st) → thenM (iteM t (thenM (asgM (var 2) (setV 1)) (pu .next)) (pu .next)) (pu .next) st = some (.next, ⟨[.lst (L4 AV.ins), oN (stepB r k b), .int (k : Int), .bytes (bA (r k))], L4 g, L, N⟩) := fun q t ht => by
    rw [q, ← hst]; exact (then_next (ite_f ht)).trans rfl
  have yes1 : stepB r k b = some k → ∀ t : Cm Bool, t st = some (true, st) → thenM (iteM t (thenM (asgM (var 2) (setV 1)) (pu .next)) (pu .next)) (pu .next) st = some (.next, ⟨[.lst (L4 AV.ins), oN (stepB r k b), .int (k : Int), .bytes (bA (r k))], L4 g, L, N⟩) := fun q t ht => by
    rw [q, then_next ((ite_t ht).trans ((then_next (asg_is (v := .int (k : Int)) (st1 := st) (by rw [hst]; rfl) rfl)).trans rfl))]
    rw [hst]; rfl
  cases q : r k with
  | nil =>
    rw [q] at n1
    exact q ▸ no1 (by unfold stepB; rw [q]) _ (and_f n1)
  | cons h tl =>
    rw [q] at n1
    rw [← q]
    have hh : h < 256 := hr k hk h (by rw [q]; exact List.mem_cons_self)
    have ht : tl.length < 1000 := by have := hl k hk; rw [q, List.length_cons] at this; omega
    have z : ∀ (f : Cm Bool) (c : Bool), f st = some (c, st) → andM f (pu true) st = some (c, st) := fun f c e => by
      cases c with
      | true => exact (and_t e).trans rfl
      | false => exact and_f e
    cases b with
    | none => exact yes1 (by unfold stepB; rw [q]) _ ((and_t n1).trans (z _ _ (or_t (show cmp2 (var 1) (pu .none) isM st = some (true, st) by rw [hst]; rfl))))
    | some j =>
      obtain ⟨hj, h', tl', q', _⟩ := B
      have hj4 : j < 4 := by omega
      have hh' : h' < 256 := hr j hj4 h' (by rw [q']; exact List.mem_cons_self)
      have ht' : tl'.length < 1000 := by have := hl j hj4; rw [q', List.length_cons] at this; omega
      have g1 := get_is g hj4 .byt [.lst (L4 AV.ins), .int (j : Int), .int (k : Int), .bytes (bA (r k))] L N
      rw [show (g j).get .byt = .bytes (bA (r j)) from hg j hj4, q'] at g1
      have l1 : cmp2 (bin2 (var 3) (pu (.int 0)) item2M) (bin2 (methM (bin2 (var 0) (var 1) item2M) (pu []) (getF .byt)) (pu (.int 0)) item2M) ltM st = some (decide (h < h'), st) := by
        rw [hst]
        refine (bd_is (a := AV.int (h : Int)) ((bd_is (a := AV.bytes (bA (r k))) rfl).trans ((bd_is (a := AV.int 0) rfl).trans (by rw [q]; exact item_bA hh ht _)))).trans ((bd_is (a := AV.int (h' : Int)) ((bd_is (meth_is (k := j) (s_item rfl rfl hj4) rfl g1)).trans ((bd_is (a := AV.int 0) rfl).trans (item_bA hh' ht' _)))).trans ?_)
        show some (decide ((h : Int) < (h' : Int)), _) = _
        rw [show decide ((h : Int) < (h' : Int)) = decide (h < h') from decide_eq_decide.mpr Int.ofNat_lt]; rfl
      have o1 : orM (cmp2 (var 1) (pu .none) isM) (orM (cmp2 (bin2 (var 3) (pu (.int 0)) item2M) (bin2 (methM (bin2 (var 0) (var 1) item2M) (pu []) (getF .byt)) (pu (.int 0)) item2M) ltM) (pu false)) st = some (decide (h < h'), st) := by
        refine (or_f (show cmp2 (var 1) (pu .none) isM st = some (false, st) by rw [hst]; rfl)).trans ?_
        cases c : decide (h < h') with
        | true => rw [c] at l1; exact or_t l1
        | false => rw [c] at l1; exact (or_f l1).trans rfl
      have sb : stepB r k (some j) = if h < h' then some k else some j := by unfold stepB; rw [q]; dsimp only; rw [q', List.headD_cons]
      by_cases c : h < h'
      · rw [decide_eq_true c] at o1
        exact yes1 (by rw [sb, if_pos c]) _ ((and_t n1).trans (z _ _ o1))
      · rw [decide_eq_false c] at o1
        exact no1 (by rw [sb, if_neg c]) _ ((and_t n1).trans (z _ _ o1))
theorem least_run (hg : ∀ j, j < 4 → (g j).byt = .bytes (bA (r j))) (hr : ∀ j, j < 4 → ∀ o ∈ r j, o < 256) (hl : ∀ j, j < 4 → (r j).length < 1000) (loc : List AV) :
    callM F_law_least [.lst (L4 AV.ins)] ⟨loc, L4 g, L, N⟩ = some (oN (bestB r), ⟨loc, L4 g, L, N⟩) := by
  have B0 : Bst r 0 .none := fun _ h => absurd h (Nat.not_lt_zero _)
  have e1 := least_step (L := [] :: L) (N := N) hg hr hl (k := 0) (by decide) B0 .none .unb
  have e2 := least_step (L := [] :: L) (N := N) hg hr hl (k := 1) (by decide) (stepB_ok B0) .none (.bytes (bA (r 0)))
  have e3 := least_step (L := [] :: L) (N := N) hg hr hl (k := 2) (by decide) (stepB_ok (stepB_ok B0)) .none (.bytes (bA (r 1)))
  have e4 := least_step (L := [] :: L) (N := N) hg hr hl (k := 3) (by decide) (stepB_ok (stepB_ok (stepB_ok B0))) .none (.bytes (bA (r 2)))
  have hf : forM' (bd (consM (pu (.int 4)) (pu [])) rangeM) sizeL nxL (setV 2) B_law_least_1 ⟨[.lst (L4 AV.ins), .none, .unb, .unb], L4 g, [] :: L, N⟩ = some (.next, ⟨[.lst (L4 AV.ins), oN (bestB r), .int 3, .bytes (bA (r 3))], L4 g, [] :: L, N⟩) :=
    forL_is (xs := nums [0, 1, 2, 3]) rfl ((forL_cons rfl e1).trans ((forL_cons rfl e2).trans ((forL_cons rfl e3).trans ((forL_cons rfl e4).trans rfl))))
  have v1 : var 1 ⟨[.lst (L4 AV.ins), oN (bestB r), .int 3, .bytes (bA (r 3))], L4 g, [] :: L, N⟩ = some (oN (bestB r), ⟨[.lst (L4 AV.ins), oN (bestB r), .int 3, .bytes (bA (r 3))], L4 g, [] :: L, N⟩) := by cases bestB r <;> rfl
  have e : B_law_least ⟨[.lst (L4 AV.ins), .unb, .unb, .unb], L4 g, [] :: L, N⟩ = some (.ret (oN (bestB r)), ⟨[.lst (L4 AV.ins), oN (bestB r), .int 3, .bytes (bA (r 3))], L4 g, [] :: L, N⟩) :=
    (then_next (asg_is (v := .none) rfl rfl)).trans ((then_next hf).trans (then_ret ((bd_is v1).trans rfl)))
  have c := call_ret (k := 1) (m := 3) (loc := loc) (xs := [.lst (L4 AV.ins)]) rfl e
  rw [show frzV [] (oN (bestB r)) = oN (bestB r) by cases bestB r <;> rfl] at c
  exact c
end
--@@
theorem tnx {f : Cm AF} {st st' : AS} (h : f st = some (.next, st')) : thenM f (pu .next) st = some (.next, st') := (then_next h).trans rfl
noncomputable def fdF : Nat → Fd
  | 0 => .byt
  | 1 => .pub
  | 2 => .enc
  | 3 => .chr
  | _ => .sys
noncomputable def valF (t c : Nat) (oc : List Nat) (h : Nat) (tl : List Nat) : Nat → AV
  | 0 => .bytes (bA tl)
  | 1 => .int ((c + 1 : Nat) : Int)
  | 2 => .int (t : Nat)
  | 3 => .str ⟨(oc ++ [h]).toArray⟩
  | _ => .int (tl.length : Nat)
section
variable {g : Nat → Ins} {L : LH} {N k t c h : Nat} {oc tl : List Nat} {pA cA : AV}
theorem tk_put (hk : k < 4) {fx : Cm AV} {fd : Fd} {v x y : AV} {i : Ins} {ys : List AV} (hy : ys.length ≤ 10) (hf : fx (⟨[.ins k, .int (t : Int), .lob N, x, .bytes (bA (h :: tl)), pA, cA, y], L4 (upd g k i), [(N, ys)] :: L, N + 1⟩ : AS) = some (v, (⟨[.ins k, .int (t : Int), .lob N, x, .bytes (bA (h :: tl)), pA, cA, y], L4 (upd g k i), [(N, ys)] :: L, N + 1⟩ : AS))) :
    dropM (lmethM (var 2) (consM (methM (var 0) (consM fx (pu [])) (setF fd)) (pu [])) appendM) (⟨[.ins k, .int (t : Int), .lob N, x, .bytes (bA (h :: tl)), pA, cA, y], L4 (upd g k i), [(N, ys)] :: L, N + 1⟩ : AS) = some (.next, (⟨[.ins k, .int (t : Int), .lob N, x, .bytes (bA (h :: tl)), pA, cA, y], L4 (upd g k (i.put v fd)), [(N, (ys ++ [.none]))] :: L, N + 1⟩ : AS)) := by
  have hc : getL1 N ([(N, ys)] :: L) = some ys := by simp [getL1, lookL]
  have s := set_is (upd g k i) hk fd v [.ins k, .int (t : Int), .lob N, x, .bytes (bA (h :: tl)), pA, cA, y] ([(N, ys)] :: L) (N + 1)
  rw [upd_upd, upd_at] at s
  have a := app_is (v := .none) hc (by omega) [.ins k, .int (t : Int), .lob N, x, .bytes (bA (h :: tl)), pA, cA, y] (L4 (upd g k (i.put v fd))) (N + 1)
  rw [show putL1 N (ys ++ [.none]) ([(N, ys)] :: L) = [(N, ys ++ [AV.none])] :: L by simp [putL1, lookL, putSeg]] at a
  exact drop_is (lmeth_is (o := N) rfl hc (meth_is (k := k) rfl (cons_is hf) s) a)
theorem tk_step (hk : k < 4) (hh : h < 256) (ht : tl.length < 1000) (ho : oc.length < 1000) (hp : ∀ x y i ys, iteM (cmp2 (var 5) (pu .none) isM) (pu (.int 1)) (bin2 (var 5) (pu (.int 1)) addM) (⟨[.ins k, .int (t : Int), .lob N, x, .bytes (bA (h :: tl)), pA, cA, y], L4 (upd g k i), [(N, ys)] :: L, N + 1⟩ : AS) = some (.int ((c + 1 : Nat) : Int), (⟨[.ins k, .int (t : Int), .lob N, x, .bytes (bA (h :: tl)), pA, cA, y], L4 (upd g k i), [(N, ys)] :: L, N + 1⟩ : AS)))
    (hc : ∀ x y i ys, iteM (cmp2 (var 6) (pu .none) isM) (pu (.str "")) (var 6) (⟨[.ins k, .int (t : Int), .lob N, x, .bytes (bA (h :: tl)), pA, cA, y], L4 (upd g k i), [(N, ys)] :: L, N + 1⟩ : AS) = some (.str ⟨oc.toArray⟩, (⟨[.ins k, .int (t : Int), .lob N, x, .bytes (bA (h :: tl)), pA, cA, y], L4 (upd g k i), [(N, ys)] :: L, N + 1⟩ : AS))) {j f : Nat} (hf : f < 5) (e : (t + j) % 5 = f) {y : AV} {i : Ins} {ys : List AV} (hy : ys.length ≤ 10) :
    B_law_taken_1 (⟨[.ins k, .int (t : Int), .lob N, (.int (j : Int)), .bytes (bA (h :: tl)), pA, cA, y], L4 (upd g k i), [(N, ys)] :: L, N + 1⟩ : AS) = some (.next, (⟨[.ins k, .int (t : Int), .lob N, (.int (j : Int)), .bytes (bA (h :: tl)), pA, cA, (.int (f : Int))], L4 (upd g k (i.put (valF t c oc h tl f) (fdF f))), [(N, (ys ++ [.none]))] :: L, N + 1⟩ : AS)) := by
  have e1 : asgM (bin2 (bin2 (var 1) (var 3) addM) (pu (.int 5)) modM) (setV 7) (⟨[.ins k, .int (t : Int), .lob N, (.int (j : Int)), .bytes (bA (h :: tl)), pA, cA, y], L4 (upd g k i), [(N, ys)] :: L, N + 1⟩ : AS) = some (.next, (⟨[.ins k, .int (t : Int), .lob N, (.int (j : Int)), .bytes (bA (h :: tl)), pA, cA, (.int (f : Int))], L4 (upd g k i), [(N, ys)] :: L, N + 1⟩ : AS)) := by
    have q : ((t : Int) + (j : Int)) % 5 = (f : Int) := by omega
    rw [← q]
    rfl
  refine (then_next e1).trans ?_
  have hf' : f = 0 ∨ f = 1 ∨ f = 2 ∨ f = 3 ∨ f = 4 := by omega
  rcases hf' with rfl | rfl | rfl | rfl | rfl
  · exact tnx ((ite_t rfl).trans (tnx (tk_put hk hy (cut_bA ht rfl))))
  · exact tnx ((ite_f rfl).trans (tnx ((ite_t rfl).trans (tnx (tk_put hk hy (hp _ _ _ _))))))
  · exact tnx ((ite_f rfl).trans (tnx ((ite_f rfl).trans (tnx ((ite_t rfl).trans (tnx (tk_put hk hy rfl)))))))
  · refine tnx ((ite_f rfl).trans (tnx ((ite_f rfl).trans (tnx ((ite_f rfl).trans (tnx ((ite_t rfl).trans (tnx (tk_put hk hy ?_)))))))))
    refine (bd_is (hc _ _ _ _)).trans ((bd_is ((bd_is (cons_is ((bd_is (a := AV.bytes (bA (h :: tl))) rfl).trans ((bd_is (a := AV.int 0) rfl).trans (item_bA hh ht _))))).trans (chr_is hh _))).trans ?_)
    show (if (Str.mk oc.toArray).length + (Str.mk #[h]).length ≤ 100000 then pu (AV.str (Str.mk oc.toArray ++ Str.mk #[h])) else no) _ = _
    rw [if_pos (by show oc.toArray.size + 1 ≤ _; rw [List.size_toArray]; omega)]
    show some (AV.str ⟨oc.toArray ++ #[h]⟩, _) = some (AV.str ⟨(oc ++ [h]).toArray⟩, _)
    rw [show oc.toArray ++ #[h] = (oc ++ [h]).toArray by simp]
  · refine tnx ((ite_f rfl).trans (tnx ((ite_f rfl).trans (tnx ((ite_f rfl).trans (tnx ((ite_f rfl).trans (tnx (tk_put hk hy ?_)))))))))
    refine (bd_is ((bd_is (cons_is (v := .bytes (bA (h :: tl))) rfl)).trans (len_bA (by rw [List.length_cons]; omega) _))).trans ((bd_is (a := AV.int 1) rfl).trans ?_)
    show some (AV.int (((h :: tl).length : Int) - 1), _) = some (AV.int (tl.length : Nat), _)
    rw [show ((h :: tl).length : Int) - 1 = (tl.length : Nat) by rw [List.length_cons]; omega]
theorem tk_all (t c : Nat) (oc : List Nat) (h : Nat) (tl : List Nat) (i : Ins) : ((((i.put (valF t c oc h tl ((t + 0) % 5)) (fdF ((t + 0) % 5))).put (valF t c oc h tl ((t + 1) % 5)) (fdF ((t + 1) % 5))).put (valF t c oc h tl ((t + 2) % 5)) (fdF ((t + 2) % 5))).put (valF t c oc h tl ((t + 3) % 5)) (fdF ((t + 3) % 5))).put (valF t c oc h tl ((t + 4) % 5)) (fdF ((t + 4) % 5)) =
    ⟨.int (tl.length : Nat), .int ((c + 1 : Nat) : Int), .int (t : Nat), .bytes (bA tl), .str ⟨(oc ++ [h]).toArray⟩⟩ := by
  have m : ∀ j, (t + j) % 5 = (t % 5 + j) % 5 := fun j => by omega
  simp only [m]
  have hf : t % 5 = 0 ∨ t % 5 = 1 ∨ t % 5 = 2 ∨ t % 5 = 3 ∨ t % 5 = 4 := by omega
  rcases hf with q | q | q | q | q <;> rw [q] <;> rfl
theorem taken_run {b : AV} {tn : List Nat} (hk : k < 4) (hh : h < 256) (ht : tl.length < 1000) (ho : oc.length < 1000) (h0 : oc.length = tn.length) (hg : g k = srcA b tn oc (h :: tl)) (loc : List AV) :
    callM F_law_taken [.ins k, .int (t : Int)] ⟨loc, L4 g, L, N⟩ = some (.lst [.none, .none, .none, .none, .none], ⟨loc, L4 (upd g k (srcA b (tn ++ [t]) (oc ++ [h]) tl)), L, N + 1⟩) := by
  obtain ⟨pA, hpA⟩ : ∃ pA, pA = (g k).pub := ⟨_, rfl⟩
  obtain ⟨cA, hcA⟩ : ∃ cA, cA = (g k).chr := ⟨_, rfl⟩
  have pc : (pA = .none ∧ cA = .none ∧ tn.length = 0) ∨ (pA = .int (tn.length : Nat) ∧ cA = .str ⟨oc.toArray⟩) := by
    rw [hpA, hcA, hg]
    unfold srcA
    cases q : tn.getLast? with
    | none => exact .inl ⟨rfl, rfl, by rw [List.getLast?_eq_none_iff.mp q]; rfl⟩
    | some u => exact .inr ⟨rfl, rfl⟩
  have hp : ∀ x y i ys, iteM (cmp2 (var 5) (pu .none) isM) (pu (.int 1)) (bin2 (var 5) (pu (.int 1)) addM) (⟨[.ins k, .int (t : Int), .lob N, x, .bytes (bA (h :: tl)), pA, cA, y], L4 (upd g k i), [(N, ys)] :: L, N + 1⟩ : AS) = some (.int ((tn.length + 1 : Nat) : Int), (⟨[.ins k, .int (t : Int), .lob N, x, .bytes (bA (h :: tl)), pA, cA, y], L4 (upd g k i), [(N, ys)] :: L, N + 1⟩ : AS)) := fun x y i ys => by
    rcases pc with ⟨rfl, _, q⟩ | ⟨rfl, _⟩
    · rw [q]; rfl
    · rfl
  have hc : ∀ x y i ys, iteM (cmp2 (var 6) (pu .none) isM) (pu (.str "")) (var 6) (⟨[.ins k, .int (t : Int), .lob N, x, .bytes (bA (h :: tl)), pA, cA, y], L4 (upd g k i), [(N, ys)] :: L, N + 1⟩ : AS) = some (.str ⟨oc.toArray⟩, (⟨[.ins k, .int (t : Int), .lob N, x, .bytes (bA (h :: tl)), pA, cA, y], L4 (upd g k i), [(N, ys)] :: L, N + 1⟩ : AS)) := fun x y i ys => by
    rcases pc with ⟨_, rfl, q⟩ | ⟨_, rfl⟩
    · rw [List.length_eq_zero_iff.mp (h0.trans q)]; rfl
    · rfl
  have gb : (g k).byt = .bytes (bA (h :: tl)) := by rw [hg]; exact src_byt _ _ _ _
  have e1 : asgM (bd (consM (methM (var 0) (pu []) (getF .byt)) (consM (methM (var 0) (pu []) (getF .pub)) (consM (methM (var 0) (pu []) (getF .chr)) (pu [])))) tupM) (swapM 3 (consA (setV 6) (consA (setV 5) (consA (setV 4) (nilA))))) ⟨[.ins k, .int (t : Int), .unb, .unb, .unb, .unb, .unb, .unb], L4 g, [] :: L, N⟩ = some (.next, ⟨[.ins k, .int (t : Int), .unb, .unb, .bytes (bA (h :: tl)), pA, cA, .unb], L4 g, [] :: L, N⟩) := by
    have gg := fun f => get_is g hk f [.ins k, .int (t : Int), .unb, .unb, .unb, .unb, .unb, .unb] ([] :: L) N
    have g1 := meth_is (k := k) (fo := var 0) (fs := pu []) (F := getF .byt) rfl rfl (gg .byt)
    have g2 := meth_is (k := k) (fo := var 0) (fs := pu []) (F := getF .pub) rfl rfl (gg .pub)
    have g3 := meth_is (k := k) (fo := var 0) (fs := pu []) (F := getF .chr) rfl rfl (gg .chr)
    rw [show (g k).get .byt = .bytes (bA (h :: tl)) from gb] at g1
    rw [show (g k).get .pub = pA from hpA.symm] at g2
    rw [show (g k).get .chr = cA from hcA.symm] at g3
    exact asg_is (v := .tup [.bytes (bA (h :: tl)), pA, cA]) ((bd_is ((bd_is g1).trans ((bd_is ((bd_is g2).trans ((bd_is (cons_is g3)).trans rfl))).trans rfl))).trans rfl) rfl
  have ug : g = upd g k (g k) := by
    funext i
    by_cases q : i = k
    · rw [q, upd_at]
    · rw [upd_ne _ _ q]
  have e2 : asgM (bd (pu []) newLob) (setV 2) ⟨[.ins k, .int (t : Int), .unb, .unb, .bytes (bA (h :: tl)), pA, cA, .unb], L4 g, [] :: L, N⟩ = some (.next, (⟨[.ins k, .int (t : Int), .lob N, AV.unb, .bytes (bA (h :: tl)), pA, cA, AV.unb], L4 (upd g k (g k)), [(N, [])] :: L, N + 1⟩ : AS)) := by
    rw [← ug]; rfl
  have st := fun {j : Nat} {y : AV} {i : Ins} {ys : List AV} (hy : ys.length ≤ 10) => tk_step (g := g) (L := L) (N := N) (t := t) (c := tn.length) (pA := pA) (cA := cA) hk hh ht ho hp hc (j := j) (Nat.mod_lt _ (by decide)) rfl (y := y) (i := i) hy
  have e3 : forM' (bd (consM (pu (.int 5)) (pu [])) rangeM) sizeL nxL (setV 3) B_law_taken_1 (⟨[.ins k, .int (t : Int), .lob N, AV.unb, .bytes (bA (h :: tl)), pA, cA, AV.unb], L4 (upd g k (g k)), [(N, [])] :: L, N + 1⟩ : AS) = some (.next, _) :=
    forL_is (xs := nums [0, 1, 2, 3, 4]) rfl ((forL_cons rfl (st (j := 0) (by decide))).trans ((forL_cons rfl (st (j := 1) (Nat.le_of_ble_eq_true rfl))).trans ((forL_cons rfl (st (j := 2) (Nat.le_of_ble_eq_true rfl))).trans ((forL_cons rfl (st (j := 3) (Nat.le_of_ble_eq_true rfl))).trans ((forL_cons rfl (st (j := 4) (Nat.le_of_ble_eq_true rfl))).trans rfl)))))
  rw [tk_all] at e3
  have e : B_law_taken ⟨[.ins k, .int (t : Int), .unb, .unb, .unb, .unb, .unb, .unb], L4 g, [] :: L, N⟩ = some (.ret (.lob N), _) := (then_next e1).trans ((then_next e2).trans ((then_next e3).trans (then_ret ((bd_is (a := AV.lob N) rfl).trans rfl))))
  have cr := call_ret (k := 2) (m := 6) (loc := loc) (xs := [.ins k, .int (t : Int)]) rfl e
  rw [src_snoc]
  refine cr.trans ?_
  simp [frzV, frz0, lookL]
end
--@@
/-! the merge in the law -/
noncomputable def bgA : Nat → AV
  | 0 => .none
  | 1 => .str ""
  | 2 => .str "b"
  | _ => .str "c"
noncomputable def rowsA (R : Nat → List Nat) : Nat → AV := fun k => .lst (nums (R k))
noncomputable def gS (M : List (Int × Int)) (oc r : Nat → List Nat) : Nat → Ins := fun k => srcA (bgA k) (turnsOf M k) (oc k) (r k)
noncomputable def LM (m a : List AV) : LH := [[(9, m), (7, a)]]
noncomputable def locM (s : AV) (R : Nat → List Nat) (P : List (Int × Int)) (t k u d : AV) : List AV := [s, .lst (L4 (rowsA R)), .lst (L4 bgA), .lst (L4 AV.ins), .lob 7, .lst (P.map pairA), .lob 9, t, k, u, d]
/-- what stands in the merge -/
structure MI (R : Nat → List Nat) (P M : List (Int × Int)) (oc r : Nat → List Nat) : Prop where
  all : P = M ++ sortP (allP r)
  row : ∀ k, oc k ++ r k = R k
  len : ∀ k, (oc k).length = (turnsOf M k).length
  srt : ∀ k, (R k).Pairwise (· ≤ ·)
  oct : ∀ k, ∀ o ∈ R k, o < 256
  few : ∀ k, (R k).length < 1000
section
variable {R : Nat → List Nat} {P M : List (Int × Int)} {oc r : Nat → List Nat} {N : Nat} {s tv kv u d : AV} {a : List AV}
theorem MI.lo (I : MI R P M oc r) (k : Nat) : (r k).length < 1000 ∧ (oc k).length < 1000 := by
  have h1 := I.few k
  rw [← I.row k, List.length_append] at h1
  omega
theorem MI.lt (I : MI R P M oc r) (k : Nat) : ∀ o ∈ r k, o < 256 := fun o ho => I.oct k o (by rw [← I.row k]; exact List.mem_append_right _ ho)
theorem MI.up (I : MI R P M oc r) (k : Nat) : (r k).Pairwise (· ≤ ·) := by
  have := I.srt k
  rw [← I.row k] at this
  exact (List.pairwise_append.mp this).2.1
theorem merge_step (I : MI R P M oc r) {k : Nat} (hb : bestB r = some k) (ha : a.length ≤ 2000) (hM : M.length ≤ 2000) :
    ∃ oc' r' p, p.2 = (k : Int) ∧ MI R P (M ++ [p]) oc' r' ∧ B_law_5 ⟨locM s R P (.int (M.length : Nat)) kv u d, L4 (gS M oc r), LM (M.map pairA) a, N⟩ = some (.next, ⟨locM s R P (.int (M.length : Nat)) (.int (k : Int)) u d, L4 (gS (M ++ [p]) oc' r'), LM ((M ++ [p]).map pairA) (a ++ [.none, .none, .none, .none, .none]), N + 1⟩) := by
  obtain ⟨hk, h, tl, hr, hs⟩ := sorted_step I.up hb
  have hh : h < 256 := I.lt k h (by rw [hr]; exact List.mem_cons_self)
  have ht : tl.length < 1000 := by have := (I.lo k).1; rw [hr, List.length_cons] at this; omega
  refine ⟨upd oc k (oc k ++ [h]), upd r k tl, ((h : Int), (k : Int)), rfl, ⟨?_, fun j => ?_, fun j => ?_, I.srt, I.oct, I.few⟩, ?_⟩
  · rw [List.append_assoc, List.singleton_append, ← hs]; exact I.all
  · by_cases q : j = k
    · rw [q, upd_at, upd_at, List.append_assoc, List.singleton_append, ← hr]; exact I.row k
    · rw [upd_ne _ _ q, upd_ne _ _ q]; exact I.row j
  · rw [turns_snoc, List.length_append]
    by_cases q : j = k
    · rw [q, upd_at, if_pos rfl, List.length_append, I.len k]; rfl
    · rw [upd_ne _ _ q, if_neg (by show ¬ (k : Int) = (j : Int); omega), I.len j]; rfl
  · have e1 : S6_1 ⟨locM s R P (.int (M.length : Nat)) kv u d, L4 (gS M oc r), LM (M.map pairA) a, N⟩ = some (.next, ⟨locM s R P (.int (M.length : Nat)) (.int (k : Int)) u d, L4 (gS M oc r), LM (M.map pairA) a, N⟩) := by
      have l := least_run (g := gS M oc r) (r := r) (L := LM (M.map pairA) a) (N := N) (fun j _ => src_byt _ _ _ _) (fun j _ => I.lt j) (fun j _ => (I.lo j).1) (locM s R P (.int (M.length : Nat)) kv u d)
      rw [hb] at l
      exact asg_is ((bd_is (cons_is (v := .lst (L4 AV.ins)) rfl)).trans l) rfl
    have gb : (gS M oc r k).get .byt = .bytes (bA (h :: tl)) := by rw [← hr]; exact src_byt _ _ _ _
    have e2 : S6_2 ⟨locM s R P (.int (M.length : Nat)) (.int (k : Int)) u d, L4 (gS M oc r), LM (M.map pairA) a, N⟩ = some (.next, ⟨locM s R P (.int (M.length : Nat)) (.int (k : Int)) u d, L4 (gS M oc r), LM ((M ++ [((h : Int), (k : Int))]).map pairA) a, N⟩) := by
      have g1 := get_is (gS M oc r) hk .byt (locM s R P (.int (M.length : Nat)) (.int (k : Int)) u d) (LM (M.map pairA) a) N
      rw [gb] at g1
      have i1 : bin2 (methM (bin2 (var 3) (var 8) item2M) (pu []) (getF .byt)) (pu (.int 0)) item2M ⟨locM s R P (.int (M.length : Nat)) (.int (k : Int)) u d, L4 (gS M oc r), LM (M.map pairA) a, N⟩ = some (.int (h : Int), _) :=
        (bd_is (meth_is (k := k) (fo := bin2 (var 3) (var 8) item2M) (fs := pu []) (s_item rfl rfl hk) rfl g1)).trans ((bd_is (a := AV.int 0) rfl).trans (item_bA hh ht _))
      have t1 : bd (consM (bin2 (methM (bin2 (var 3) (var 8) item2M) (pu []) (getF .byt)) (pu (.int 0)) item2M) (consM (var 8) (pu []))) tupM ⟨locM s R P (.int (M.length : Nat)) (.int (k : Int)) u d, L4 (gS M oc r), LM (M.map pairA) a, N⟩ = some (pairA ((h : Int), (k : Int)), _) := (bd_is ((bd_is i1).trans rfl)).trans rfl
      have ap := app_is (o := 9) (xs := M.map pairA) (v := pairA ((h : Int), (k : Int))) (L := LM (M.map pairA) a) rfl (by rw [List.length_map]; omega) (locM s R P (.int (M.length : Nat)) (.int (k : Int)) u d) (L4 (gS M oc r)) N
      rw [List.map_append]
      exact drop_is (lmeth_is (o := 9) rfl rfl t1 ap)
    have e3 : S6_3 ⟨locM s R P (.int (M.length : Nat)) (.int (k : Int)) u d, L4 (gS M oc r), LM ((M ++ [((h : Int), (k : Int))]).map pairA) a, N⟩ = some (.next, ⟨locM s R P (.int (M.length : Nat)) (.int (k : Int)) u d, L4 (upd (gS M oc r) k (srcA (bgA k) (turnsOf M k ++ [M.length]) (oc k ++ [h]) tl)), LM ((M ++ [((h : Int), (k : Int))]).map pairA) (a ++ [.none, .none, .none, .none, .none]), N + 1⟩) := by
      have t1 := taken_run (g := gS M oc r) (L := LM ((M ++ [((h : Int), (k : Int))]).map pairA) a) (N := N) (t := M.length) (b := bgA k) (tn := turnsOf M k) hk hh ht (I.lo k).2 (I.len k) (by unfold gS; rw [hr]) (locM s R P (.int (M.length : Nat)) (.int (k : Int)) u d)
      have i1 := s_item (g := gS M oc r) (f := var 8) (i := 3) (L := LM ((M ++ [((h : Int), (k : Int))]).map pairA) a) (N := N) (loc := locM s R P (.int (M.length : Nat)) (.int (k : Int)) u d) rfl rfl hk
      exact drop_is (lmeth_is (o := 7) (xs := a) rfl rfl ((bd_is ((bd_is i1).trans (bd_is (cons_is (v := .int (M.length : Nat)) rfl)))).trans t1) (ext_is rfl (by show a.length + 5 ≤ _; omega) _ _ _))
    have ge : upd (gS M oc r) k (srcA (bgA k) (turnsOf M k ++ [M.length]) (oc k ++ [h]) tl) = gS (M ++ [((h : Int), (k : Int))]) (upd oc k (oc k ++ [h])) (upd r k tl) := by
      funext j
      unfold gS
      rw [turns_snoc]
      by_cases q : j = k
      · rw [q, upd_at, upd_at, upd_at, if_pos rfl]
      · rw [upd_ne _ _ q, upd_ne _ _ q, upd_ne _ _ q, if_neg (by show ¬ (k : Int) = (j : Int); omega), List.append_nil]
    rw [ge] at e3
    exact (then_next e1).trans ((then_next e2).trans (tnx e3))
theorem allP_nil (h : ∀ k, k < 4 → r k = []) : allP r = [] := by
  have e : ∀ k, k < 4 → row r k = [] := fun k hk => by unfold row; rw [h k hk]; rfl
  show row r 0 ++ (row r 1 ++ (row r 2 ++ (row r 3 ++ []))) = []
  rw [e 0 (by decide), e 1 (by decide), e 2 (by decide), e 3 (by decide)]; rfl
theorem best_of (h : allP r ≠ []) : ∃ k, bestB r = some k := by
  cases q : bestB r with
  | none => exact absurd (allP_nil (sorted_none q)) h
  | some k => exact ⟨k, rfl⟩
theorem merge_loop : ∀ (m : Nat) {M : List (Int × Int)} {oc r : Nat → List Nat} {a : List AV} {tv kv : AV} {N : Nat}, MI R P M oc r → M.length + m = P.length → nones a → a.length + 5 * m ≤ 2000 → P.length ≤ 2000 →
    ∃ oc' r' a' tv' kv' N', MI R P P oc' r' ∧ nones a' ∧ a'.length ≤ 2000 ∧ forG nxL (setV 7) B_law_5 (m + 1) (nums (List.range' M.length m)) ⟨locM s R P tv kv u d, L4 (gS M oc r), LM (M.map pairA) a, N⟩ = some (.next, ⟨locM s R P tv' kv' u d, L4 (gS P oc' r'), LM (P.map pairA) a', N'⟩)
  | 0, M, oc, r, a, tv, kv, N, I, hm, hn, ha, hP => by
    have e : M = P := by
      have := I.all
      have h2 : (sortP (allP r)).length = 0 := by have := congrArg List.length this; rw [List.length_append] at this; omega
      rw [List.length_eq_zero_iff.mp h2, List.append_nil] at this
      exact this.symm
    subst e
    exact ⟨oc, r, a, tv, kv, N, I, hn, by omega, rfl⟩
  | m + 1, M, oc, r, a, tv, kv, N, I, hm, hn, ha, hP => by
    have hne : allP r ≠ [] := fun q => by
      have h2 := congrArg List.length I.all
      rw [q, List.length_append, show (sortP []).length = 0 from (List.mergeSort_perm [] lexLe).length_eq] at h2
      omega
    obtain ⟨k, hb⟩ := best_of hne
    obtain ⟨oc1, r1, p, hp, I1, e1⟩ := merge_step (M := M) (a := a) (s := s) (kv := kv) (u := u) (d := d) (N := N) I hb (by omega) (by omega)
    have hn1 : nones (a ++ [.none, .none, .none, .none, .none]) := nones_app hn fun x h => by simpa using h
    obtain ⟨oc', r', a', tv', kv', N', I2, n2, l2, e2⟩ := merge_loop m (tv := .int (M.length : Nat)) (kv := .int (k : Int)) (N := N + 1) I1 (by rw [List.length_append, List.length_singleton]; omega) hn1 (by rw [List.length_append]; show a.length + 5 + _ ≤ _; omega) hP
    refine ⟨oc', r', a', tv', kv', N', I2, n2, l2, ?_⟩
    rw [List.range'_succ]
    rw [List.length_append, List.length_singleton] at e2
    exact (forL_cons (x := .int (M.length : Nat)) rfl e1).trans e2
theorem range_is {n : Nat} (h : n ≤ 2000) (st : AS) : rangeM [.int (n : Int)] st = some (nums (List.range n), st) := by
  show (if -1000000 ≤ (n : Int) ∧ (n : Int) ≤ 1000000 then pu (rangeL 0 (n : Int).toNat) else no) st = _
  rw [if_pos (by omega), Int.toNat_natCast]
  unfold rangeL nums
  simp only [Int.zero_add]
  rfl
theorem len_pairs {loc : List AV} {I : List Ins} {L : LH} {i : Nat} (hP : P.length ≤ 2000) (hv : var i ⟨loc, I, L, N⟩ = some (.lst (P.map pairA), ⟨loc, I, L, N⟩)) : bd (consM (bd (consM (var i) (pu [])) lenBM) (pu [])) rangeM ⟨loc, I, L, N⟩ = some (nums (List.range P.length), ⟨loc, I, L, N⟩) := by
  refine (bd_is (cons_is (v := .int (P.length : Nat)) ((bd_is (cons_is hv)).trans ?_))).trans (range_is hP _)
  show (if (P.map pairA).length ≤ 100000 then some (AV.int (P.map pairA).length, _) else .none) = _
  rw [List.length_map, if_pos (by omega)]
theorem s18 (I : MI R P [] oc r) (hn : nones a) (ha : a.length + 5 * P.length ≤ 2000) : ∃ oc' r' a' tv' kv' N', MI R P P oc' r' ∧ nones a' ∧ a'.length ≤ 2000 ∧ S1_8 ⟨locM s R P tv kv u d, L4 (gS [] oc r), LM [] a, N⟩ = some (.next, ⟨locM s R P tv' kv' u d, L4 (gS P oc' r'), LM (P.map pairA) a', N'⟩) := by
  obtain ⟨oc', r', a', tv', kv', N', I2, n2, l2, e2⟩ := merge_loop (s := s) (u := u) (d := d) (tv := tv) (kv := kv) (N := N) P.length I (by simp) hn ha (by omega)
  refine ⟨oc', r', a', tv', kv', N', I2, n2, l2, forL_is (len_pairs (P := P) (by omega) rfl) ?_⟩
  rw [show (nums (List.range P.length)).length = P.length by unfold nums; rw [List.length_map, List.length_range], List.range_eq_range']
  exact e2
end
--@@
/-! at the end -/
noncomputable def AV.sm : AV → Bool
  | .none => true
  | .int _ => true
  | .str _ => true
  | .bytes _ => true
  | _ => false
theorem sm_eq {v : AV} (h : v.sm = true) (st : AS) (d : Nat) : eqF st (d + 1) v v = some true := by
  cases v <;> first | exact congrArg some (beq_self_eq_true _) | rfl | cases h
theorem eq_sm (st : AS) (d : Nat) : ∀ l : List AV, (∀ x ∈ l, x.sm = true) → eqAll (eqF st (d + 1)) l l = some true
  | [], _ => rfl
  | v :: l, h => by
    simp only [eqAll, sm_eq (h v List.mem_cons_self), eq_sm st d l fun x hx => h x (List.mem_cons_of_mem _ hx), Bool.and_self]
theorem ne_lst {l : List AV} (st : AS) (h : ∀ x ∈ l, x.sm = true) : neM (.lst l) (.lst l) st = some (false, st) := by
  have hx : itemsM (.lst l) st = some (l, st) := rfl
  unfold neM
  rw [eq_lists hx hx, if_pos rfl, eq_sm st 6 l h]; rfl
theorem eq_pairs (st : AS) : ∀ P : List (Int × Int), eqAll (eqF st 7) (P.map pairA) (P.map pairA) = some true
  | [] => rfl
  | p :: P => by
    have h : eqF st 7 (pairA p) (pairA p) = some true := by
      show (if [AV.int p.1, AV.int p.2].length = [AV.int p.1, AV.int p.2].length then eqAll (eqF st 6) [AV.int p.1, AV.int p.2] [AV.int p.1, AV.int p.2] else .none) = _
      rw [if_pos rfl]
      exact eq_sm st 5 _ fun x hx => by simp at hx; rcases hx with rfl | rfl <;> rfl
    simp only [List.map_cons, eqAll, h, eq_pairs st P, Bool.and_self]
theorem join_tx : ∀ r : List Nat, Txt.join "" (r.map fun c => (⟨#[c]⟩ : Str)) = ⟨r.toArray⟩ := by
  have z : ∀ r : List Nat, Str.join (Str.ofString "") (r.map fun c => (⟨#[c]⟩ : Str)) = ⟨r.toArray⟩ := by
    intro r
    induction r with
    | nil => rfl
    | cons c r ih =>
      cases r with
      | nil => rfl
      | cons d r =>
        rw [List.map_cons, List.map_cons]
        rw [List.map_cons] at ih
        rw [Str.join, ih]
        · show Str.append (Str.append ⟨#[c]⟩ ⟨#[]⟩) ⟨(d :: r).toArray⟩ = _
          simp [Str.append]
        · intro h; cases h
  intro r
  show Builtin.Str.glued (Str.ofString "") _ = _
  rw [StrLaws.glued_eq_join]
  exact z r
theorem strs_tx : ∀ r : List Nat, strsOf (r.map sgn) = some (r.map fun c => (⟨#[c]⟩ : Str))
  | [] => rfl
  | c :: r => by
    have := strs_tx r
    rw [List.map_cons, sgn, strsOf, this]
    rfl
theorem sum_one : ∀ l : List Nat, ((l.map fun c => (⟨#[c]⟩ : Str)).map Str.length).sum = l.length
  | [] => rfl
  | c :: l => by rw [List.map_cons, List.map_cons, List.sum_cons, sum_one l, List.length_cons]; exact Nat.add_comm 1 _
theorem flat_nums (V : AV → List AV) : ∀ js : List Nat, (nums js).flatMap V = js.flatMap fun (j : Nat) => V (.int (j : Int))
  | [] => rfl
  | j :: js => by
    rw [nums, List.map_cons, List.flatMap_cons, List.flatMap_cons]
    exact congrArg _ (flat_nums V js)
theorem flat_if (p : Nat → Bool) : ∀ js : List Nat, (js.flatMap fun (j : Nat) => if p j then [AV.int (j : Int)] else []) = nums (js.filter p)
  | [] => rfl
  | j :: js => by
    rw [List.flatMap_cons, List.filter_cons, flat_if p js]
    cases p j <;> rfl
theorem flat_sgn : ∀ js : List Nat, (js.flatMap fun (j : Nat) => [sgn j]) = js.map sgn
  | [] => rfl
  | j :: js => by rw [List.flatMap_cons, flat_sgn js]; rfl
noncomputable def natA : AV → Nat
  | .int i => i.toNat
  | _ => 0
section
variable {R : Nat → List Nat} {P : List (Int × Int)} {oc r : Nat → List Nat} {I : List Ins} {L : LH} {N k : Nat} {s tv kv u d : AV} {a : List AV}
theorem s19 : S1_9 ⟨locM s R P tv kv u d, I, LM (P.map pairA) a, N⟩ = some (.next, ⟨locM s R P tv kv u d, I, LM (P.map pairA) a, N⟩) := by
  obtain ⟨st, hst⟩ : ∃ st : AS, st = ⟨locM s R P tv kv u d, I, LM (P.map pairA) a, N⟩ := ⟨_, rfl⟩
  have hx : itemsM (.lob 9) st = some (P.map pairA, st) := by rw [hst]; rfl
  have hy : itemsM (.lst (P.map pairA)) st = some (P.map pairA, st) := rfl
  rw [← hst]
  refine ite_f ((bd_is (a := AV.lob 9) (st1 := st) (by rw [hst]; rfl)).trans ((bd_is (a := AV.lst (P.map pairA)) (st1 := st) (by rw [hst]; rfl)).trans ?_))
  unfold neM
  rw [eq_lists hx hy, if_pos rfl, eq_pairs]; rfl
theorem turns_comp (hP : P.length ≤ 2000) : C_law_2 ⟨locM s R P tv (.int (k : Int)) u d, I, [] :: L, N⟩ = some (.lob N, ⟨locM s R P tv (.int (k : Int)) u d, I, [(N, nums (turnsOf P k))] :: L, N + 1⟩) := by
  have e : (nums (List.range P.length)).flatMap (fun x => if decide ((P.getD (natA x) (0, 0)).2 = (k : Int)) then [AV.int (natA x : Nat)] else []) = nums (turnsOf P k) := by
    rw [flat_nums]
    exact flat_if (fun i => decide ((P.getD i (0, 0)).2 = (k : Int))) _
  rw [← e]
  refine comp_is (R := fun loc => ∃ a, loc = [a, .int (k : Int), .lst (P.map pairA)]) (xs := nums (List.range P.length)) (i := nums (List.range P.length)) (len_pairs hP rfl) rfl (wlk_L _ _) (fun v hv => ?_) ⟨.unb, rfl⟩ (by
    rw [e]; unfold turnsOf nums; rw [List.length_map]; exact Nat.le_trans (List.length_filter_le _ _) (by rw [List.length_range]; omega))
  obtain ⟨t, ht', rfl⟩ := List.mem_map.mp hv
  have htl : t < P.length := List.mem_range.mp ht'
  refine item_one (by decide) (lc := [.int (t : Int), .int (k : Int), .lst (P.map pairA)]) (b := decide ((P.getD t (0, 0)).2 = (k : Int))) (v := .int (t : Nat)) (fun loc ys ⟨a, ha⟩ => by rw [ha]; rfl) ⟨_, rfl⟩ (fun ys => ?_) (fun _ _ => rfl) rfl
  have it : bin2 (var 2) (var 0) item2M (cst I L N [.int (t : Int), .int (k : Int), .lst (P.map pairA)] ys) = some (pairA (P.getD t (0, 0)), cst I L N [.int (t : Int), .int (k : Int), .lst (P.map pairA)] ys) :=
    (bd_is (a := AV.lst (P.map pairA)) rfl).trans ((bd_is (a := AV.int (t : Int)) rfl).trans (item_lst (by rw [List.length_map]; omega) (by rw [List.getElem?_map, List.getD_eq_getElem?_getD, List.getElem?_eq_getElem htl]; rfl) _))
  refine (bd_is (a := AV.int (P.getD t (0, 0)).2) ((bd_is it).trans rfl)).trans ((bd_is (a := AV.int (k : Int)) rfl).trans ?_)
  show some ((P.getD t (0, 0)).2 == (k : Int), _) = _
  rfl
theorem text_comp (hk : k < 4) (hR : ∀ o ∈ R k, o < 256) (hl : (R k).length < 1000) : frzE C_law_1 ⟨locM s R P tv (.int (k : Int)) u d, I, L, N⟩ = some (.lst ((R k).map sgn), ⟨locM s R P tv (.int (k : Int)) u d, I, L, N + 1⟩) := by
  have e : (nums (R k)).flatMap (fun x => [sgn (natA x)]) = (R k).map sgn := by rw [flat_nums]; exact flat_sgn _
  refine frzN ?_
  rw [← e]
  have i1 : bin2 (var 1) (var 8) item2M ⟨locM s R P tv (.int (k : Int)) u d, I, [] :: L, N⟩ = some (rowsA R k, _) := (bd_is (a := AV.lst (L4 (rowsA R))) rfl).trans ((bd_is (a := AV.int (k : Int)) rfl).trans (item_lst (by show 4 ≤ _; omega) (L4_at (rowsA R) hk) _))
  have hn : (nums (R k)).length = (R k).length := List.length_map ..
  refine comp_is (R := fun loc => ∃ a, loc = [a]) (xs := nums (R k)) (i := (rowsA R k, 0)) ((bd_is i1).trans rfl) rfl (by have := wlk_A (ok := fun st => ∃ loc ys, st = cst I L N loc ys) (X := rowsA R k) (zs := nums (R k)) (fun _ _ => rfl) (nums (R k)).length 0 (by omega); exact this) (fun v hv => ?_) ⟨.unb, rfl⟩ (by rw [e, List.length_map]; omega)
  obtain ⟨c, hc, rfl⟩ := List.mem_map.mp hv
  exact item_one (by decide) (lc := [.int (c : Int)]) (b := true) (v := sgn c) (fun loc ys ⟨a, ha⟩ => by rw [ha]; rfl) ⟨_, rfl⟩ (fun _ => rfl) (fun _ ys => (bd_is (cons_is rfl)).trans (chr_is (hR c hc) _)) rfl
/-- one source at the end -/
theorem end_step (I : MI R P P oc r) (hr : ∀ k, k < 4 → r k = []) (hk : k < 4) (hP : P.length ≤ 2000) : ∃ u' d' N', B_law_3 ⟨locM s R P tv (.int (k : Int)) u d, L4 (gS P oc r), L, N⟩ = some (.next, ⟨locM s R P tv (.int (k : Int)) u' d', L4 (gS P oc r), L, N'⟩) := by
  have e1 : S2_1 ⟨locM s R P tv (.int (k : Int)) u d, L4 (gS P oc r), L, N⟩ = some (.next, ⟨locM s R P tv (.int (k : Int)) (.lst (nums (turnsOf P k))) d, L4 (gS P oc r), L, N + 1⟩) := by
    have c := turns_comp (s := s) (R := R) (tv := tv) (u := u) (d := d) (k := k) (I := L4 (gS P oc r)) (L := L) (N := N) hP
    have c' : asgM C_law_2 (setV 9) ⟨locM s R P tv (.int (k : Int)) u d, L4 (gS P oc r), [] :: L, N⟩ = some (.next, ⟨locM s R P tv (.int (k : Int)) (.lob N) d, L4 (gS P oc r), [(N, nums (turnsOf P k))] :: L, N + 1⟩) := asg_is c rfl
    show frzS 9 _ _ = _
    unfold frzS
    rw [c']
    simp [locM, frzV, frz0, lookL]
  have e2 : S2_2 ⟨locM s R P tv (.int (k : Int)) (.lst (nums (turnsOf P k))) d, L4 (gS P oc r), L, N + 1⟩ = some (.next, ⟨locM s R P tv (.int (k : Int)) (.lst (nums (turnsOf P k))) (.lst [bgA k, .none, .none, .bytes (bA []), .none]), L4 (gS P oc r), L, N + 1⟩) := by
    have i1 : bin2 (var 2) (var 8) item2M ⟨locM s R P tv (.int (k : Int)) (.lst (nums (turnsOf P k))) d, L4 (gS P oc r), L, N + 1⟩ = some (bgA k, _) := (bd_is (a := AV.lst (L4 bgA)) rfl).trans ((bd_is (a := AV.int (k : Int)) rfl).trans (item_lst (by show 4 ≤ _; omega) (L4_at bgA hk) _))
    exact asg_is ((bd_is ((bd_is i1).trans rfl)).trans rfl) rfl
  have told : ∀ u' d' N', bd (consM (bin2 (var 3) (var 8) item2M) (pu [])) (callM F_law_told) ⟨locM s R P tv (.int (k : Int)) u' d', L4 (gS P oc r), L, N'⟩ = some (.lst [(gS P oc r k).sys, (gS P oc r k).pub, (gS P oc r k).enc, (gS P oc r k).byt, (gS P oc r k).chr], ⟨locM s R P tv (.int (k : Int)) u' d', L4 (gS P oc r), L, N'⟩) := fun u' d' N' => by
    refine (bd_is (cons_is (s_item rfl rfl hk))).trans ?_
    have gg := fun f => meth_is (fo := var 0) (fs := pu []) (F := getF f) (st := ⟨[.ins k], L4 (gS P oc r), [] :: L, N'⟩) (k := k) rfl rfl (get_is (gS P oc r) hk f _ _ _)
    have e : B_law_told ⟨[.ins k], L4 (gS P oc r), [] :: L, N'⟩ = some (.ret (.lst [(gS P oc r k).sys, (gS P oc r k).pub, (gS P oc r k).enc, (gS P oc r k).byt, (gS P oc r k).chr]), ⟨[.ins k], L4 (gS P oc r), [] :: L, N'⟩) :=
      then_ret ((bd_is ((bd_is ((bd_is (gg .sys)).trans ((bd_is ((bd_is (gg .pub)).trans ((bd_is ((bd_is (gg .enc)).trans ((bd_is ((bd_is (gg .byt)).trans ((bd_is (cons_is (gg .chr))).trans rfl))).trans rfl))).trans rfl))).trans rfl))).trans rfl)).trans rfl)
    exact call_ret (k := 1) (m := 0) (xs := [.ins k]) rfl e
  have oR : oc k = R k := by have := I.row k; rwa [hr k hk, List.append_nil] at this
  have bsm : (bgA k).sm = true := by rcases four hk with rfl | rfl | rfl | rfl <;> rfl
  have neq : ∀ (l : List Nat) (st : AS), neM (.lst (nums l)) (.lst []) st = some (decide (l ≠ []), st) := fun l st => by cases l <;> rfl
  cases q : (turnsOf P k).getLast? with
  | none =>
    have g0 : gS P oc r k = ⟨bgA k, .none, .none, .bytes (bA []), .none⟩ := by unfold gS srcA; rw [q, hr k hk]
    have t0 : turnsOf P k = [] := List.getLast?_eq_none_iff.mp q
    rw [g0] at told
    rw [t0] at e1 e2
    have e3 : S2_3 ⟨locM s R P tv (.int (k : Int)) (.lst (nums [])) (.lst [bgA k, .none, .none, .bytes (bA []), .none]), L4 (gS P oc r), L, N + 1⟩ = some (.next, _) := ite_f ((bd_is (a := AV.lst (nums [])) rfl).trans ((bd_is (a := AV.lst []) rfl).trans (neq [] _)))
    have e4 : S2_4 ⟨locM s R P tv (.int (k : Int)) (.lst (nums [])) (.lst [bgA k, .none, .none, .bytes (bA []), .none]), L4 (gS P oc r), L, N + 1⟩ = some (.next, _) := ite_f ((bd_is (told _ _ _)).trans ((bd_is (a := AV.lst [bgA k, .none, .none, .bytes (bA []), .none]) rfl).trans (ne_lst _ fun x hx => by
      simp at hx; rcases hx with rfl | rfl | rfl | rfl <;> first | exact bsm | rfl)))
    exact ⟨_, _, _, (then_next e1).trans ((then_next e2).trans ((then_next e3).trans (tnx e4)))⟩
  | some t =>
    have g0 : gS P oc r k = ⟨.int 0, .int ((turnsOf P k).length : Nat), .int (t : Nat), .bytes (bA []), .str ⟨(R k).toArray⟩⟩ := by unfold gS srcA; rw [q, hr k hk, oR]; rfl
    obtain ⟨st, hst⟩ : ∃ st : AS, st = ⟨locM s R P tv (.int (k : Int)) (.lst (nums (turnsOf P k))) (.lst [bgA k, .none, .none, .bytes (bA []), .none]), L4 (gS P oc r), L, N + 1⟩ := ⟨_, rfl⟩
    have tl : (turnsOf P k).length ≤ 2000 := by unfold turnsOf; exact Nat.le_trans (List.length_filter_le _ _) (by rw [List.length_range]; exact hP)
    have nl : (nums (turnsOf P k)).length = (turnsOf P k).length := List.length_map ..
    have v9 : var 9 st = some (.lst (nums (turnsOf P k)), st) := by rw [hst]; rfl
    have hne : turnsOf P k ≠ [] := fun z => by rw [z] at q; cases q
    have n1 := neq (turnsOf P k) st
    rw [decide_eq_true hne] at n1
    have l1 : bd (consM (var 9) (pu [])) lenBM st = some (.int ((turnsOf P k).length : Nat), st) := by
      refine (bd_is (cons_is v9)).trans ?_
      show (if (nums (turnsOf P k)).length ≤ 100000 then some (AV.int (nums (turnsOf P k)).length, st) else .none) = _
      rw [nl, if_pos (by omega)]
    have l2 : bin2 (var 9) (negM (pu (.int 1))) item2M st = some (.int (t : Nat), st) := by
      refine (bd_is v9).trans ((bd_is (a := AV.int (-1)) rfl).trans ?_)
      show (if (nums (turnsOf P k)).length ≤ 100000 then (match idxM (nums (turnsOf P k)) (-1) with | some v => some (v, st) | .none => .none) else .none) = _
      have ix : idxM (nums (turnsOf P k)) (-1) = some (.int (t : Nat)) := by
        have := List.length_pos_iff.mpr hne
        unfold idxM
        rw [if_neg (by decide), nl, if_pos (by omega), show (-1 + ((turnsOf P k).length : Int)).toNat = (turnsOf P k).length - 1 by omega]
        unfold nums
        rw [List.getElem?_map, ← List.getLast?_eq_getElem?, q]; rfl
      rw [nl, if_pos (by omega), ix]
    obtain ⟨st2, hst2⟩ : ∃ st2 : AS, st2 = ⟨locM s R P tv (.int (k : Int)) (.lst (nums (turnsOf P k))) (.lst [bgA k, .none, .none, .bytes (bA []), .none]), L4 (gS P oc r), L, N + 1 + 1⟩ := ⟨_, rfl⟩
    have l3 : joinM (pu (.str "")) (consM (frzE C_law_1) (pu [])) st = some (.str ⟨(R k).toArray⟩, st2) := by
      have tc := text_comp (s := s) (P := P) (tv := tv) (u := .lst (nums (turnsOf P k))) (d := .lst [bgA k, .none, .none, .bytes (bA []), .none]) (I := L4 (gS P oc r)) (L := L) (N := N + 1) hk (I.oct k) (I.few k)
      rw [← hst, ← hst2] at tc
      refine (bd_is (a := AV.str "") rfl).trans ((bd_is (cons_is tc)).trans ?_)
      show (match strsOf ((R k).map sgn) with
        | some ts => if (Str.ofString "").length ≤ 16 ∧ (ts.map Str.length).sum + ts.length ≤ 1048576 then some (AV.str (Txt.join "" ts), st2) else .none
        | .none => .none) = _
      rw [strs_tx]
      have hs : (((R k).map fun c => (⟨#[c]⟩ : Str)).map Str.length).sum = (R k).length := sum_one _
      have := I.few k
      show (if (Str.ofString "").length ≤ 16 ∧ _ then _ else _) = _
      rw [hs, List.length_map, if_pos ⟨by decide, by omega⟩, join_tx]
    have e3 : S2_3 st = some (.next, ⟨locM s R P tv (.int (k : Int)) (.lst (nums (turnsOf P k))) (.lst [.int 0, .int ((turnsOf P k).length : Nat), .int (t : Nat), .bytes (bA []), .str ⟨(R k).toArray⟩]), L4 (gS P oc r), L, N + 1 + 1⟩) := by
      refine (ite_t ((bd_is v9).trans ((bd_is (a := AV.lst []) (st1 := st) rfl).trans n1))).trans (tnx (asg_is ((bd_is ((bd_is (a := AV.int 0) (st1 := st) rfl).trans ((bd_is ((bd_is l1).trans ((bd_is ((bd_is l2).trans ((bd_is ((bd_is (a := AV.bytes (bA [])) (st1 := st) rfl).trans ((bd_is (cons_is l3)).trans rfl))).trans rfl))).trans rfl))).trans rfl))).trans rfl) ?_))
      rw [hst2]; rfl
    rw [g0] at told
    have e4 : S2_4 ⟨locM s R P tv (.int (k : Int)) (.lst (nums (turnsOf P k))) (.lst [.int 0, .int ((turnsOf P k).length : Nat), .int (t : Nat), .bytes (bA []), .str ⟨(R k).toArray⟩]), L4 (gS P oc r), L, N + 1 + 1⟩ = some (.next, _) := ite_f ((bd_is (told _ _ _)).trans ((bd_is (a := AV.lst [.int 0, .int ((turnsOf P k).length : Nat), .int (t : Nat), .bytes (bA []), .str ⟨(R k).toArray⟩]) rfl).trans (ne_lst _ fun x hx => by
      simp at hx; rcases hx with rfl | rfl | rfl | rfl | rfl <;> rfl)))
    rw [hst] at e3
    exact ⟨_, _, _, (then_next e1).trans ((then_next e2).trans ((then_next e3).trans (tnx e4)))⟩
end
--@@
section
variable {R : Nat → List Nat} {P : List (Int × Int)} {oc r : Nat → List Nat} {L : LH} {N : Nat} {s tv kv u d : AV} {a : List AV}
theorem ends (I : MI R P P oc r) (hr : ∀ k, k < 4 → r k = []) (hP : P.length ≤ 2000) : ∀ (ks : List Nat) {kv u d : AV} {N : Nat}, (∀ k ∈ ks, k < 4) →
    ∃ kv' u' d' N', forG nxL (setV 8) B_law_3 (ks.length + 1) (nums ks) ⟨locM s R P tv kv u d, L4 (gS P oc r), L, N⟩ = some (.next, ⟨locM s R P tv kv' u' d', L4 (gS P oc r), L, N'⟩)
  | [], kv, u, d, N, _ => ⟨kv, u, d, N, rfl⟩
  | k :: ks, kv, u, d, N, h => by
    obtain ⟨u1, d1, N1, e1⟩ := end_step (s := s) (tv := tv) (u := u) (d := d) (L := L) (N := N) I hr (h k List.mem_cons_self) hP
    obtain ⟨kv', u', d', N', e2⟩ := ends I hr hP ks (kv := .int (k : Int)) (u := u1) (d := d1) (N := N1) fun j hj => h j (List.mem_cons_of_mem _ hj)
    exact ⟨kv', u', d', N', (forL_cons (x := .int (k : Int)) rfl e1).trans e2⟩
theorem s111 {m : List AV} {I : List Ins} (hn : nones a) (ha : a.length ≤ 2000) : S1_11 ⟨locM s R P tv kv u d, I, LM m a, N⟩ = some (.ret (.bool true), ⟨locM s R P tv kv u d, I, LM m a, N⟩) := by
  obtain ⟨st, hst⟩ : ∃ st : AS, st = ⟨locM s R P tv kv u d, I, LM m a, N⟩ := ⟨_, rfl⟩
  have hi : itemsM (.lob 7) st = some (a, st) := by rw [hst]; rfl
  have v4 : var 4 st = some (.lob 7, st) := by rw [hst]; rfl
  have ln : bd (consM (var 4) (pu [])) lenBM st = some (.int (a.length : Int), st) := by
    refine (bd_is (cons_is v4)).trans ?_
    show lenM [.lob 7] st = _
    simp only [lenM, hi]
    rw [if_pos (by omega)]
  have ml : bin2 (bd (consM (pu .none) (pu [])) lstM) (bd (consM (var 4) (pu [])) lenBM) mulLM st = some (.lst (List.replicate a.length .none), st) := by
    refine (bd_is (a := AV.lst [.none]) rfl).trans ((bd_is ln).trans ?_)
    simp only [mulLM, AV.int?, itemsM, Int.toNat_natCast]
    rw [if_pos ⟨by omega, by omega, by simp; omega⟩]
    simp
  have hj : itemsM (.lst (List.replicate a.length .none)) st = some (List.replicate a.length .none, st) := rfl
  rw [← hst]
  refine (bd_is (a := AV.bool true) (st1 := st) ((bd_is (a := true) (st1 := st) ((bd_is v4).trans ((bd_is ml).trans ?_))).trans rfl)).trans rfl
  unfold eqM
  rw [eq_lists hi hj, if_pos (List.length_replicate ..).symm, eqAll_nones st a hn]
end
/-! the rows -/
noncomputable def rawR (xs : List Int) (k : Nat) : List Int := xs.flatMap fun x => if x % 4 == (k : Int) then [x / 4 % 256] else []
noncomputable def rowR (xs : List Int) (k : Nat) : List Nat := (sortP ((rawR xs k).map fun n => (n, 0))).map fun p => p.1.toNat
theorem raw_in {xs : List Int} {k : Nat} {n : Int} (h : n ∈ rawR xs k) : 0 ≤ n ∧ n < 256 := by
  obtain ⟨x, _, hx⟩ := List.mem_flatMap.mp h
  split at hx
  · have := List.mem_singleton.mp hx; omega
  · cases hx
theorem sort_in {xs : List Int} {k : Nat} {p : Int × Int} (h : p ∈ sortP ((rawR xs k).map fun n => (n, 0))) : 0 ≤ p.1 ∧ p.1 < 256 ∧ p.2 = 0 := by
  obtain ⟨n, hn, rfl⟩ := List.mem_map.mp ((List.mergeSort_perm _ _).mem_iff.mp h)
  exact ⟨(raw_in hn).1, (raw_in hn).2, rfl⟩
theorem rowR_oct {xs : List Int} {k o : Nat} (h : o ∈ rowR xs k) : o < 256 := by
  obtain ⟨p, hp, rfl⟩ := List.mem_map.mp h
  have := sort_in hp
  omega
theorem rowR_srt (xs : List Int) (k : Nat) : (rowR xs k).Pairwise (· ≤ ·) := by
  unfold rowR
  rw [List.pairwise_map]
  have h : (sortP ((rawR xs k).map fun n => (n, (0 : Int)))).Pairwise (fun a b => lexLe a b = true) := List.pairwise_mergeSort lexLe_trans lexLe_tot _
  refine h.imp fun {a b} h => ?_
  unfold lexLe at h
  rw [Bool.not_eq_true', lexB_not] at h
  omega
theorem rowR_nums (xs : List Int) (k : Nat) : (sortP ((rawR xs k).map fun n => (n, 0))).map intA = nums (rowR xs k) := by
  unfold rowR nums
  rw [List.map_map]
  refine List.map_congr_left fun p hp => ?_
  have := sort_in hp
  show AV.int p.1 = AV.int ((p.1.toNat : Nat) : Int)
  rw [Int.toNat_of_nonneg this.1]
theorem rowR_len (xs : List Int) (k : Nat) : (rowR xs k).length = (rawR xs k).length := by
  unfold rowR
  rw [List.length_map]
  exact (List.mergeSort_perm _ _).length_eq.trans (List.length_map _)
theorem raw_sum : ∀ xs : List Int, (rawR xs 0).length + (rawR xs 1).length + (rawR xs 2).length + (rawR xs 3).length ≤ xs.length
  | [] => Nat.le_refl _
  | x :: xs => by
    have ih := raw_sum xs
    have st : ∀ k, (rawR (x :: xs) k).length = (if x % 4 == (k : Int) then [x / 4 % 256] else []).length + (rawR xs k).length := fun k => by
      show (List.flatMap _ (x :: xs)).length = _
      rw [List.flatMap_cons, List.length_append]; rfl
    rw [st, st, st, st, List.length_cons]
    have h4 : x % 4 = 0 ∨ x % 4 = 1 ∨ x % 4 = 2 ∨ x % 4 = 3 := by omega
    rcases h4 with h | h | h | h <;> rw [h] <;> simp <;> omega
theorem allP_len (R : Nat → List Nat) : (allP R).length = (R 0).length + (R 1).length + (R 2).length + (R 3).length := by
  show (row R 0 ++ (row R 1 ++ (row R 2 ++ (row R 3 ++ [])))).length = _
  simp only [List.length_append, row, List.length_map, List.length_nil]
  omega
theorem row_few {xs : List Int} (h : xs.length ≤ 68) : (allP (rowR xs)).length ≤ 68 ∧ ∀ k, (rowR xs k).length ≤ 68 := by
  refine ⟨?_, fun k => ?_⟩
  · rw [allP_len, rowR_len, rowR_len, rowR_len, rowR_len]
    exact Nat.le_trans (raw_sum xs) h
  · rw [rowR_len]
    refine Nat.le_trans ?_ h
    clear h
    induction xs with
    | nil => exact Nat.le_refl _
    | cons x xs ih =>
      show (List.flatMap _ (x :: xs)).length ≤ _
      rw [List.flatMap_cons, List.length_append, List.length_cons]
      have : (if x % 4 == (k : Int) then [x / 4 % 256] else []).length ≤ 1 := by split <;> simp
      have ih' : (List.flatMap (fun x : Int => if x % 4 == (k : Int) then [x / 4 % 256] else []) xs).length ≤ xs.length := ih
      omega
section
variable {σ : Type} {nx : σ → AS → Option (Option (AV × σ))} {tgt : AV → Cm Unit} {fm : Cm Unit}
theorem clo_one {m : Nat} {i i' : σ} {x : AV} {st st1 st2 : AS} (h : nx i st = some (some (x, i'))) (h1 : tgt x st = some ((), st1)) (h2 : fm st1 = some ((), st2)) : cloG nx tgt (pu true) fm (m + 1) i st = cloG nx tgt (pu true) fm m i' st2 := by
  rw [cloG]; simp only [h]
  exact (bd_is h1).trans ((bd_is (a := true) rfl).trans (bd_is h2))
end
section
variable {xs ns : List Int} {s : AV} {I : List Ins} {L : LH} {M N : Nat}
noncomputable def vR (k : Nat) : AV → List AV
  | .int i => if i % 4 == (k : Int) then [.int (i / 4 % 256)] else []
  | _ => []
/-- one row -/
theorem row_comp (hs : s = .lsb (ns.map .int)) (hx : xs = [32, 10, 0, 34, 4] ++ ns) (hl : xs.length ≤ 68) (k : Nat) : frzE C_law_7 ⟨[.int (k : Int), s], I, L, M⟩ = some (.lst ((rawR xs k).map .int), ⟨[.int (k : Int), s], I, L, M + 1⟩) := by
  have e : ∀ xs : List Int, (xs.map AV.int).flatMap (vR k) = (rawR xs k).map AV.int := fun xs => by
    induction xs with
    | nil => rfl
    | cons x xs ih =>
      rw [List.map_cons, List.flatMap_cons, ih]
      show _ = (List.flatMap _ (x :: xs)).map AV.int
      rw [List.flatMap_cons, List.map_append]
      refine congrArg (· ++ _) ?_
      show (if x % 4 == (k : Int) then [AV.int (x / 4 % 256)] else []) = List.map AV.int (if x % 4 == (k : Int) then [x / 4 % 256] else [])
      split <;> rfl
  refine frzN ?_
  rw [← e]
  have ln : ns.length ≤ 63 := by rw [hx] at hl; simp at hl; omega
  have lx : ((rawR xs k).map AV.int).length ≤ 5000 := by
    rw [List.length_map, ← rowR_len]; exact Nat.le_trans ((row_few hl).2 k) (by decide)
  have a1 : addM (.lst [.int 32, .int 10, .int 0, .int 34, .int 4]) s ⟨[.int (k : Int), s], I, [] :: L, M⟩ = some (.lst (xs.map .int), ⟨[.int (k : Int), s], I, [] :: L, M⟩) := by
    subst hs hx
    simp [addM, AV.int?, AV.str?, addLM, itemsM, items2M, show 5 + ns.length ≤ 100000 by omega]
  have v1 : var 1 ⟨[.int (k : Int), s], I, [] :: L, M⟩ = some (s, ⟨[.int (k : Int), s], I, [] :: L, M⟩) := by subst hs; rfl
  refine comp_is (R := fun loc => ∃ a, loc = [a, .int (k : Int)]) (xs := xs.map AV.int) (i := xs.map AV.int) ((bd_is (a := AV.lst (xs.map .int)) ((bd_is (a := AV.lst [.int 32, .int 10, .int 0, .int 34, .int 4]) rfl).trans ((bd_is v1).trans a1))).trans rfl) rfl (wlk_L _ _) (fun v hv => ?_) ⟨.unb, rfl⟩ (by rw [e]; exact lx)
  obtain ⟨x, _, rfl⟩ := List.mem_map.mp hv
  exact item_one (by decide) (lc := [.int x, .int (k : Int)]) (b := x % 4 == (k : Int)) (v := .int (x / 4 % 256)) (fun loc ys ⟨a, ha⟩ => by rw [ha]; rfl) ⟨_, rfl⟩ (fun ys => rfl) (fun _ ys => rfl) rfl
theorem intsOf_ints : ∀ l : List Int, intsOf (l.map AV.int) = some l
  | [] => rfl
  | i :: l => by rw [List.map_cons, intsOf, intsOf_ints l]
theorem row_one (hs : s = .lsb (ns.map .int)) (hx : xs = [32, 10, 0, 34, 4] ++ ns) (hl : xs.length ≤ 68) (k : Nat) {ys : List AV} (hy : ys.length ≤ 10) : emit1 (bd (consM (frzE (C_law_7)) (pu [])) sortedM) M ⟨[.int (k : Int), s], I, [(M, ys)] :: L, N⟩ = some ((), ⟨[.int (k : Int), s], I, [(M, ys ++ [rowsA (rowR xs) k])] :: L, N + 1⟩) := by
  have c := row_comp (I := I) (L := [(M, ys)] :: L) (M := N) hs hx hl k
  have so : sortedM [.lst ((rawR xs k).map .int)] ⟨[.int (k : Int), s], I, [(M, ys)] :: L, N + 1⟩ = some (rowsA (rowR xs) k, ⟨[.int (k : Int), s], I, [(M, ys)] :: L, N + 1⟩) := by
    simp only [sortedM, itemsM, intsOf_ints]
    rw [if_pos (by rw [List.length_map, ← rowR_len]; have := (row_few hl).2 k; omega), rowR_nums]
    rfl
  have ap := app_is (o := M) (xs := ys) (v := rowsA (rowR xs) k) (L := [(M, ys)] :: L) (by simp [getL1, lookL]) (by omega) [.int (k : Int), s] I (N + 1)
  rw [show putL1 M (ys ++ [rowsA (rowR xs) k]) ([(M, ys)] :: L) = [(M, ys ++ [rowsA (rowR xs) k])] :: L by simp [putL1, lookL, putSeg]] at ap
  exact (bd_is ((bd_is (cons_is c)).trans so)).trans ((bd_is ap).trans rfl)
noncomputable def u9 : List AV := [.unb, .unb, .unb, .unb, .unb, .unb, .unb, .unb, .unb]
theorem s11 (hs : s = .lsb (ns.map .int)) (hx : xs = [32, 10, 0, 34, 4] ++ ns) (hl : xs.length ≤ 68) : S1_1 ⟨s :: .unb :: u9, [], [[]], 0⟩ = some (.next, ⟨s :: .lst (L4 (rowsA (rowR xs))) :: u9, [], [[]], 5⟩) := by
  have o := fun (k : Nat) {ys : List AV} (N : Nat) (hy : ys.length ≤ 10) => row_one (I := []) (L := [[]]) (M := 0) (N := N) hs hx hl k hy
  have c : cloG nxL (setV 0) (pu true) (emit1 (bd (consM (frzE (C_law_7)) (pu [])) sortedM) 0) 5 (nums [0, 1, 2, 3]) ⟨[.unb, s], [], [(0, [])] :: [[]], 1⟩ = some ((), ⟨[.int 3, s], [], [(0, L4 (rowsA (rowR xs)))] :: [[]], 5⟩) :=
    (clo_one rfl rfl (o 0 1 (by decide))).trans ((clo_one rfl rfl (o 1 2 (Nat.le_of_ble_eq_true rfl))).trans ((clo_one rfl rfl (o 2 3 (Nat.le_of_ble_eq_true rfl))).trans ((clo_one rfl rfl (o 3 4 (Nat.le_of_ble_eq_true rfl))).trans rfl)))
  have e : C_law_8 ⟨s :: .unb :: u9, [], [] :: [[]], 0⟩ = some (.lob 0, ⟨s :: .unb :: u9, [], [(0, L4 (rowsA (rowR xs)))] :: [[]], 5⟩) := by
    rw [C_law_8, compN, bd_is (a := nums [0, 1, 2, 3]) (st1 := ⟨s :: .unb :: u9, [], [] :: [[]], 0⟩) rfl]
    show (match cloG nxL (setV 0) (pu true) (emit1 (bd (consM (frzE (C_law_7)) (pu [])) sortedM) 0) 5 (nums [0, 1, 2, 3]) ⟨[.unb, s], [], [(0, [])] :: [[]], 1⟩ with
      | some (_, st') => some (AV.lob 0, { st' with loc := s :: .unb :: u9 })
      | .none => .none) = _
    rw [c]
  exact asg_is (frzE_is (st := ⟨s :: .unb :: u9, [], [[]], 0⟩) (st1 := ⟨s :: .unb :: u9, [], [[]], 5⟩) (N := 0) e) rfl
theorem p24 (s R : AV) : ∀ g : Cm AF, thenM S1_2 (thenM S1_3 (thenM S1_4 g)) ⟨s :: R :: u9, [], [[]], 5⟩ = g ⟨[s, R, .lst (L4 bgA), .lst (L4 AV.ins), .unb, .unb, .unb, .unb, .unb, .unb, .unb], L4 fun k => ⟨bgA k, .none, .none, .none, .none⟩, [[]], 7⟩ := by
  intro g
  kernel_rfl
end
--@@
noncomputable def loc3 (s : AV) (R : Nat → List Nat) (a p m : AV) : List AV := [s, .lst (L4 (rowsA R)), .lst (L4 bgA), .lst (L4 AV.ins), a, p, m, .unb, .unb, .unb, .unb]
theorem intsOf_nums : ∀ l : List Nat, intsOf (nums l) = some (l.map fun (v : Nat) => (v : Int))
  | [] => rfl
  | v :: l => by show intsOf (.int (v : Int) :: nums l) = _; simp only [intsOf, intsOf_nums l, List.map_cons]
theorem bytes_is {l : List Nat} (hl : l.length ≤ 1000) (h : ∀ o ∈ l, o < 256) (st : AS) : bytesM [.lst (nums l)] st = some (.bytes (bA l), st) := by
  have hall : (l.map fun (v : Nat) => (v : Int)).all (fun k => decide (0 ≤ k ∧ k < 256)) = true := by
    rw [List.all_map, List.all_eq_true]
    intro o ho
    have := h o ho
    simp only [Function.comp, decide_eq_true_eq]
    omega
  simp only [bytesM, itemsM, intsOf_nums]
  rw [if_pos ⟨by unfold nums; rw [List.length_map]; omega, hall⟩]
  rfl
section
variable {s : AV} {R : Nat → List Nat}
theorem byt_one (hR : ∀ k, ∀ o ∈ R k, o < 256) (hl : ∀ k, (R k).length ≤ 1000) {g : Nat → Ins} {k : Nat} (hk : k < 4) {ys : List AV} (hy : ys.length ≤ 10) :
    emit1 (methM (var 0) (consM (bd (consM (var 1) (pu [])) bytesM) (pu [])) (setF .byt)) 7 ⟨[.ins k, rowsA R k], L4 g, [[(7, ys)]], 8⟩ = some ((), ⟨[.ins k, rowsA R k], L4 (upd g k ((g k).put (.bytes (bA (R k))) .byt)), [[(7, ys ++ [.none])]], 8⟩) := by
  have b := bytes_is (hl k) (hR k) ⟨[.ins k, rowsA R k], L4 g, [[(7, ys)]], 8⟩
  have v1 : var 1 ⟨[.ins k, rowsA R k], L4 g, [[(7, ys)]], 8⟩ = some (rowsA R k, ⟨[.ins k, rowsA R k], L4 g, [[(7, ys)]], 8⟩) := rfl
  have m := meth_is (k := k) (fo := var 0) (F := setF .byt) rfl (cons_is ((bd_is (cons_is v1)).trans b)) (set_is g hk .byt _ _ _ _)
  have ap := app_is (o := 7) (xs := ys) (v := .none) (L := [[(7, ys)]]) rfl (by omega) [.ins k, rowsA R k] (L4 (upd g k ((g k).put (.bytes (bA (R k))) .byt))) 8
  exact (bd_is m).trans ((bd_is ap).trans rfl)
theorem s15 (hR : ∀ k, ∀ o ∈ R k, o < 256) (hl : ∀ k, (R k).length ≤ 1000) : S1_5 ⟨loc3 s R .unb .unb .unb, L4 fun k => ⟨bgA k, .none, .none, .none, .none⟩, [[]], 7⟩ = some (.next, ⟨loc3 s R (.lob 7) .unb .unb, L4 (gS [] (fun _ => []) R), [[(7, [.none, .none, .none, .none])]], 8⟩) := by
  have o := fun (g : Nat → Ins) (k : Nat) (hk : k < 4) {ys : List AV} (hy : ys.length ≤ 10) => byt_one (g := g) hR hl hk hy
  have c : cloG nx2 (unpackM 2 (consA (setV 0) (consA (setV 1) (nilA)))) (pu true) (emit1 (methM (var 0) (consM (bd (consM (var 1) (pu [])) bytesM) (pu [])) (setF .byt)) 7) 5 (L4 AV.ins, L4 (rowsA R)) ⟨[.unb, .unb], L4 fun k => ⟨bgA k, .none, .none, .none, .none⟩, [[(7, [])]], 8⟩ = some ((), ⟨[.ins 3, rowsA R 3], L4 (gS [] (fun _ => []) R), [[(7, [.none, .none, .none, .none])]], 8⟩) :=
    (clo_one (x := .tup [.ins 0, rowsA R 0]) rfl rfl (o (fun k => ⟨bgA k, .none, .none, .none, .none⟩) 0 (by decide) (ys := []) (by decide))).trans ((clo_one (x := .tup [.ins 1, rowsA R 1]) rfl rfl (o _ 1 (by decide) (Nat.le_of_ble_eq_true rfl))).trans ((clo_one (x := .tup [.ins 2, rowsA R 2]) rfl rfl (o _ 2 (by decide) (Nat.le_of_ble_eq_true rfl))).trans ((clo_one (x := .tup [.ins 3, rowsA R 3]) rfl rfl (o _ 3 (by decide) (Nat.le_of_ble_eq_true rfl))).trans rfl)))
  have e : C_law_4 ⟨loc3 s R .unb .unb .unb, L4 fun k => ⟨bgA k, .none, .none, .none, .none⟩, [[]], 7⟩ = some (.lob 7, ⟨loc3 s R .unb .unb .unb, L4 (gS [] (fun _ => []) R), [[(7, [.none, .none, .none, .none])]], 8⟩) := by
    rw [C_law_4, compN, bd_is (a := (L4 AV.ins, L4 (rowsA R))) (st1 := ⟨loc3 s R .unb .unb .unb, L4 fun k => ⟨bgA k, .none, .none, .none, .none⟩, [[]], 7⟩) rfl]
    show (match cloG nx2 (unpackM 2 (consA (setV 0) (consA (setV 1) (nilA)))) (pu true) (emit1 (methM (var 0) (consM (bd (consM (var 1) (pu [])) bytesM) (pu [])) (setF .byt)) 7) 5 (L4 AV.ins, L4 (rowsA R)) ⟨[.unb, .unb], L4 fun k => ⟨bgA k, .none, .none, .none, .none⟩, [[(7, [])]], 8⟩ with
      | some (_, st') => some (AV.lob 7, { st' with loc := loc3 s R .unb .unb .unb })
      | .none => .none) = _
    rw [c]
  exact asg_is e rfl
theorem prOf_pairs : ∀ ps : List (Int × Int), prOf (ps.map pairA) = some ps
  | [] => rfl
  | p :: ps => by
    rw [List.map_cons, prOf, prOf_pairs ps]
    rfl
theorem sorted_pairs (ps : List (Int × Int)) (hl : ps.length < 128) (st : AS) : sortedM [.lst (ps.map pairA)] st = some (.lst ((sortP ps).map pairA), st) := by
  simp only [sortedM, itemsM, List.length_map]
  rw [if_pos hl]
  cases ps with
  | nil => simp [intsOf, sortP]
  | cons p ps =>
    have h : intsOf ((p :: ps).map pairA) = .none := rfl
    rw [h, prOf_pairs]
theorem pairs_comp {I : List Ins} {L : LH} {M : Nat} (hl : ∀ k, (R k).length ≤ 1000) : frzE C_law_3 ⟨loc3 s R (.lob 7) .unb .unb, I, L, M⟩ = some (.lst ((allP R).map pairA), ⟨loc3 s R (.lob 7) .unb .unb, I, L, M + 1⟩) := by
  have e1 : ∀ k : Nat, (nums (R k)).flatMap (fun x => [pairA ((natA x : Int), (k : Int))]) = (row R k).map pairA := fun k => by
    rw [flat_nums]
    unfold row
    induction R k with
    | nil => rfl
    | cons o l ih => rw [List.flatMap_cons, ih]; rfl
  have e2 : (nums [0, 1, 2, 3]).flatMap (fun x => (row R (natA x)).map pairA) = (allP R).map pairA := by
    rw [flat_nums]
    show (row R 0).map pairA ++ ((row R 1).map pairA ++ ((row R 2).map pairA ++ ((row R 3).map pairA ++ []))) = List.map pairA (row R 0 ++ (row R 1 ++ (row R 2 ++ (row R 3 ++ []))))
    simp
  have hn : ∀ k, (nums (R k)).length = (R k).length := fun k => List.length_map ..
  have ls : ((allP R).map pairA).length ≤ 4000 := by
    rw [List.length_map, allP_len]
    have := hl 0
    have := hl 1
    have := hl 2
    have := hl 3
    omega
  refine frzN ?_
  rw [← e2]
  refine comp_is (R := fun loc => ∃ a b, loc = [a, b, .lst (L4 (rowsA R))]) (xs := nums [0, 1, 2, 3]) (i := nums [0, 1, 2, 3]) rfl rfl (wlk_L _ _) (fun v hv => ?_) ⟨.unb, .unb, rfl⟩ (by rw [e2]; omega)
  obtain ⟨k, hk', rfl⟩ := List.mem_map.mp hv
  have hk : k < 4 := by revert hk'; simp; omega
  intro loc ys hr hy
  obtain ⟨a, b, rfl⟩ := hr
  refine ⟨[.int (k : Int), b, .lst (L4 (rowsA R))], rfl, .inr ⟨rfl, ?_⟩⟩
  have i1 : ∀ b ys, bin2 (var 2) (var 0) item2M (cst I L M [.int (k : Int), b, .lst (L4 (rowsA R))] ys) = some (rowsA R k, cst I L M [.int (k : Int), b, .lst (L4 (rowsA R))] ys) := fun b ys =>
    (bd_is (a := AV.lst (L4 (rowsA R))) rfl).trans ((bd_is (a := AV.int (k : Int)) rfl).trans (item_lst (by show 4 ≤ _; omega) (L4_at (rowsA R) hk) _))
  have hin : ∀ x ∈ nums (R k), Item 90000 (setV 1) (pu true) (emit1 (bd (consM (var 1) (consM (var 0) (pu []))) tupM) M) I L M (fun loc => ∃ b, loc = [.int (k : Int), b, .lst (L4 (rowsA R))]) (fun x => [pairA ((natA x : Int), (k : Int))]) x := fun x hx => by
    obtain ⟨c, hc, rfl⟩ := List.mem_map.mp hx
    exact item_one (by decide) (lc := [.int (k : Int), .int (c : Int), .lst (L4 (rowsA R))]) (b := true) (v := pairA ((c : Int), (k : Int))) (fun loc ys ⟨a, ha⟩ => by rw [ha]; rfl) ⟨_, rfl⟩ (fun _ => rfl) (fun _ ys => rfl) rfl
  have hw := wlk_A (ok := fun st => ∃ loc ys, st = cst I L M loc ys) (X := rowsA R k) (zs := nums (R k)) (fun _ _ => rfl) (nums (R k)).length 0 (by omega)
  rw [List.drop_zero] at hw
  obtain ⟨loc2, ⟨b2, h2⟩, e⟩ := clo_walk (ys := ys) hw hin ⟨b, rfl⟩ (by rw [e1, List.length_map]; unfold row; rw [List.length_map]; have := hl k; omega)
  rw [e1] at e
  exact ⟨loc2, ⟨_, _, h2⟩, (bd_is (a := (rowsA R k, 0)) ((bd_is (i1 b ys)).trans rfl)).trans e⟩
theorem s167 {I : List Ins} {a : List AV} (hl : ∀ k, (R k).length ≤ 1000) (hp : (allP R).length < 128) (g : Cm AF) : thenM S1_6 (thenM S1_7 g) ⟨loc3 s R (.lob 7) .unb .unb, I, [[(7, a)]], 8⟩ = g ⟨loc3 s R (.lob 7) (.lst ((sortP (allP R)).map pairA)) (.lob 9), I, LM [] a, 10⟩ := by
  have e6 : S1_6 ⟨loc3 s R (.lob 7) .unb .unb, I, [[(7, a)]], 8⟩ = some (.next, ⟨loc3 s R (.lob 7) (.lst ((sortP (allP R)).map pairA)) .unb, I, [[(7, a)]], 9⟩) :=
    asg_is ((bd_is (cons_is (pairs_comp hl))).trans (sorted_pairs _ hp _)) rfl
  exact (then_next e6).trans (then_next (asg_is (v := .lob 9) rfl rfl))
end
theorem plain (ns : List Int) (h : ns.length ≤ 63) : ∃ st', B_law ⟨.lsb (ns.map .int) :: List.replicate 10 .unb, [], [[]], 0⟩ = some (.ret (.bool true), st') := by
  obtain ⟨s, hs⟩ : ∃ s, s = AV.lsb (ns.map .int) := ⟨_, rfl⟩
  obtain ⟨xs, hx⟩ : ∃ xs : List Int, xs = [32, 10, 0, 34, 4] ++ ns := ⟨_, rfl⟩
  have hl : xs.length ≤ 68 := by rw [hx]; simp; omega
  obtain ⟨q1, q2⟩ := row_few hl
  have e1 := s11 hs hx hl
  obtain ⟨R, hR⟩ : ∃ R, R = rowR xs := ⟨_, rfl⟩
  have hoct : ∀ k, ∀ o ∈ R k, o < 256 := fun k o ho => by rw [hR] at ho; exact rowR_oct ho
  have hsrt : ∀ k, (R k).Pairwise (· ≤ ·) := fun k => by rw [hR]; exact rowR_srt xs k
  rw [← hR] at e1 q1 q2
  have h1000 : ∀ k, (R k).length ≤ 1000 := fun k => Nat.le_trans (q2 k) (by decide)
  have e5 := s15 (s := s) hoct h1000
  obtain ⟨P, hP⟩ : ∃ P, P = sortP (allP R) := ⟨_, rfl⟩
  have lP : P.length ≤ 68 := by rw [hP]; exact Nat.le_trans (Nat.le_of_eq (List.mergeSort_perm _ _).length_eq) q1
  have I0 : MI R P [] (fun _ => []) R := ⟨hP, fun _ => rfl, fun _ => rfl, hsrt, hoct, fun k => Nat.lt_of_le_of_lt (q2 k) (by decide)⟩
  obtain ⟨oc', r', a', tv', kv', N', I1, n1, l1, e8⟩ := s18 (s := s) (tv := .unb) (kv := .unb) (u := .unb) (d := .unb) (N := 10) (a := [.none, .none, .none, .none]) I0 (fun x h => by simpa using h) (by show 4 + _ ≤ _; omega)
  have hr : ∀ k, k < 4 → r' k = [] := fun k hk => by
    have h1 := congrArg List.length I1.all
    rw [List.length_append] at h1
    have h2 : (allP r').length = 0 := by rw [← (List.mergeSort_perm (allP r') lexLe).length_eq]; show (sortP (allP r')).length = 0; omega
    rw [allP_len] at h2
    refine List.length_eq_zero_iff.mp ?_
    rcases four hk with rfl | rfl | rfl | rfl <;> omega
  obtain ⟨kv2, u2, d2, N2, e10⟩ := ends (s := s) (tv := tv') (kv := kv') (u := .unb) (d := .unb) (L := LM (P.map pairA) a') (N := N') I1 hr (by omega) [0, 1, 2, 3, 3, 2, 1, 0] (by decide)
  have e10' : S1_10 _ = _ := forL_is (xs := nums [0, 1, 2, 3, 3, 2, 1, 0]) rfl e10
  have e6 := fun g => s167 (s := s) (I := L4 (gS [] (fun _ => []) R)) (a := [.none, .none, .none, .none]) h1000 (Nat.lt_of_le_of_lt q1 (by decide)) g
  rw [← hP] at e6
  have fin : B_law ⟨s :: .unb :: u9, [], [[]], 0⟩ = some (.ret (.bool true), _) := (then_next e1).trans ((p24 s (.lst (L4 (rowsA R))) _).trans ((then_next e5).trans ((e6 _).trans ((then_next e8).trans ((then_next s19).trans ((then_next e10').trans (then_ret (s111 n1 l1))))))))
  rw [hs] at fin
  exact ⟨_, fin⟩

end Mine
set_option maxRecDepth 100000 in
set_option maxHeartbeats 8000000 in
theorem PySem.Challenge.cw_dn0304_06_holds : PySem.Challenge.rw_dn0304_06.Holds :=
  hd06 (by
  k_go0
  have KX := ‹(hd06.heap_39 _).In _›
  have T := ‹Top _ _ _ _ _ _›
  have F := ‹Fr _ _ _ _›
  have hL := ‹Heap.IsList _ _ _›
  have hI := ‹IntsAre _ _›
  have hB := T.builtins
  have G : Mine.Gd (Mine.cx _ _ _ _) := ⟨KX, T.g, T.b, T.nolimit⟩
  have NN := ‹News _ _ _ _›
  have XX := ‹CellsAre _ _ _›
  refine Mine.law_okC (n := 12) (x := "script") (others := ["rows", "begun", "sources", "answers", "pairs", "merged", "turn", "k", "turns", "due"]) (f := Mine.B_law) G ?hS (by decide) rfl (by decide +kernel) (by decide +kernel) F NN XX (fun h => by first | rfl | exact absurd h (by decide +kernel)) (fun h => by first | rfl | exact absurd h (by decide +kernel)) hL hI (Mine.plain _ (by omega)) (fun s' k1 k2 k3 => ?_)
  case hS =>
    open Mine in
    refine ImplS.cons ?_ ?_
    · refine ImplS1.assign ?_ ?_
      · refine ImplE.frz ?_
        refine ImplE.compN (tv := ["k"]) (cp := ["script"]) (caps := [0]) (size := sizeL) (gt := goesT) (Comp2Is.of rfl (by decide +kernel)) ?_ ?_ ?_ ?_ (turn_1 _ _ _ _ _ _)
        · refine ImplI.range G rfl (g_range G hB) ?_
          refine ImplEs.cons ?_ ?_
          · exact ImplE.cint
          exact ImplEs.nil
        · exact ImplA.name (i := 0) rfl rfl
        · exact ImplC.nil
        refine ImplM.one ?_
        refine ImplE.callB G rfl (g_sorted G hB) ?_ sorted_ok
        refine ImplEs.cons ?_ ?_
        · refine ImplE.frz ?_
          refine ImplE.compN (tv := ["x"]) (cp := ["k"]) (caps := [0]) (size := sizeL) (gt := goesT) (Comp2Is.of rfl (by decide +kernel)) ?_ ?_ ?_ ?_ (turn_1 _ _ _ _ _ _)
          · refine ImplI.list ?_
            refine ImplE.bin ?_ ?_ add_ok
            · refine ImplE.list ?_
              refine ImplEs.cons ?_ ?_
              · exact ImplE.cint
              refine ImplEs.cons ?_ ?_
              · exact ImplE.cint
              refine ImplEs.cons ?_ ?_
              · exact ImplE.cint
              refine ImplEs.cons ?_ ?_
              · exact ImplE.cint
              refine ImplEs.cons ?_ ?_
              · exact ImplE.cint
              exact ImplEs.nil
            exact ImplE.name (i := 1) rfl (by decide +kernel)
          · exact ImplA.name (i := 0) rfl rfl
          · refine ImplC.one ?_
            refine ImplT.cmp ?_ ?_ eq_ok
            · refine ImplE.bin ?_ ?_ mod_ok
              · exact ImplE.name (i := 0) rfl (by decide +kernel)
              exact ImplE.cint
            exact ImplE.name (i := 1) rfl (by decide +kernel)
          refine ImplM.one ?_
          refine ImplE.bin ?_ ?_ mod_ok
          · refine ImplE.bin ?_ ?_ div_ok
            · exact ImplE.name (i := 0) rfl (by decide +kernel)
            exact ImplE.cint
          exact ImplE.cint
        exact ImplEs.nil
      exact ImplA.name (i := 1) rfl rfl
    refine ImplS.cons ?_ ?_
    · refine ImplS1.assign ?_ ?_
      · refine ImplE.list ?_
        refine ImplEs.cons ?_ ?_
        · exact ImplE.cnone
        refine ImplEs.cons ?_ ?_
        · exact ImplE.cstr
        refine ImplEs.cons ?_ ?_
        · exact ImplE.cstr
        refine ImplEs.cons ?_ ?_
        · exact ImplE.cstr
        exact ImplEs.nil
      exact ImplA.name (i := 2) rfl rfl
    refine ImplS.cons ?_ ?_
    · refine ImplS1.assign ?_ ?_
      · refine ImplE.list ?_
        refine ImplEs.cons ?_ ?_
        · refine e_new G rfl ?_
          exact ImplEs.nil
        refine ImplEs.cons ?_ ?_
        · refine e_new G rfl ?_
          refine ImplEs.cons ?_ ?_
          · exact ImplE.cstr
          exact ImplEs.nil
        refine ImplEs.cons ?_ ?_
        · refine e_new G rfl ?_
          refine ImplEs.cons ?_ ?_
          · exact ImplE.cstr
          exact ImplEs.nil
        refine ImplEs.cons ?_ ?_
        · refine e_new G rfl ?_
          refine ImplEs.cons ?_ ?_
          · exact ImplE.cstr
          exact ImplEs.nil
        exact ImplEs.nil
      exact ImplA.name (i := 3) rfl rfl
    refine ImplS.cons ?_ ?_
    · refine ImplS1.ite ?_ ?_ ?_
      · refine ImplT.bool ?_
        refine ImplTs.or ?_ ?_
        · refine ImplT.cmp ?_ ?_ ne_ok
          · refine ImplE.frz ?_
            refine ImplE.compN (tv := ["source"]) (cp := []) (caps := []) (size := sizeA) (gt := goesT) (Comp2Is.of rfl (by decide +kernel)) ?_ ?_ ?_ ?_ (turn_1 _ _ _ _ _ _)
            · refine ImplI.any ?_
              exact ImplE.name (i := 3) rfl (by decide +kernel)
            · exact ImplA.name (i := 0) rfl rfl
            · exact ImplC.nil
            refine ImplM.one ?_
            refine ImplE.callFn G rfl (g_law_told G) r_law_told ?_ (k_law_told G hB)
            refine ImplEs.cons ?_ ?_
            · exact ImplE.name (i := 0) rfl (by decide +kernel)
            exact ImplEs.nil
          refine ImplE.frz ?_
          refine ImplE.compN (tv := ["one"]) (cp := []) (caps := []) (size := sizeA) (gt := goesT) (Comp2Is.of rfl (by decide +kernel)) ?_ ?_ ?_ ?_ (turn_1 _ _ _ _ _ _)
          · refine ImplI.any ?_
            exact ImplE.name (i := 2) rfl (by decide +kernel)
          · exact ImplA.name (i := 0) rfl rfl
          · exact ImplC.nil
          refine ImplM.one ?_
          refine ImplE.list ?_
          refine ImplEs.cons ?_ ?_
          · exact ImplE.name (i := 0) rfl (by decide +kernel)
          refine ImplEs.cons ?_ ?_
          · exact ImplE.cnone
          refine ImplEs.cons ?_ ?_
          · exact ImplE.cnone
          refine ImplEs.cons ?_ ?_
          · exact ImplE.cnone
          refine ImplEs.cons ?_ ?_
          · exact ImplE.cnone
          exact ImplEs.nil
        refine ImplTs.or ?_ ?_
        · refine ImplT.not ?_
          refine ImplT.value ?_
          refine ImplE.callFn G rfl (g_law_washed G) r_law_washed ?_ (k_law_washed G hB)
          refine ImplEs.cons ?_ ?_
          · refine ImplE.item2 ?_ ?_
            · exact ImplE.name (i := 3) rfl (by decide +kernel)
            exact ImplE.cint
          exact ImplEs.nil
        exact ImplTs.orNil
      · refine ImplS.cons ?_ ?_
        · refine ImplS1.ret ?_
          exact ImplE.cbool
        exact ImplS.nil
      exact ImplS.nil
    refine ImplS.cons ?_ ?_
    · refine ImplS1.assignCompN (i := 4) (tv := ["source", "row"]) (cp := []) (caps := []) (size := size2) (gt := goesU) (Comp2Is.of rfl (by decide +kernel)) ?_ ?_ ?_ ?_ (turn_1 _ _ _ _ _ _) rfl rfl
      · refine ImplI.zip2 G rfl (g_zip G hB) ?_
        refine ImplEs.cons ?_ ?_
        · exact ImplE.name (i := 3) rfl (by decide +kernel)
        refine ImplEs.cons ?_ ?_
        · exact ImplE.name (i := 1) rfl (by decide +kernel)
        exact ImplEs.nil
      · refine ImplA.tuple ?_
        refine ImplAs.cons ?_ ?_
        · exact ImplA.name (i := 0) rfl rfl
        refine ImplAs.cons ?_ ?_
        · exact ImplA.name (i := 1) rfl rfl
        exact ImplAs.nil
      · exact ImplC.nil
      refine ImplM.one ?_
      refine ImplE.meth G cls m_setByteStream ?_ ?_ (f_setByteStream G)
      · exact ImplE.name (i := 0) rfl (by decide +kernel)
      refine ImplEs.cons ?_ ?_
      · refine ImplE.callT G rfl (g_bytes G hB) ?_ bytes_ok
        refine ImplEs.cons ?_ ?_
        · exact ImplE.name (i := 1) rfl (by decide +kernel)
        exact ImplEs.nil
      exact ImplEs.nil
    refine ImplS.cons ?_ ?_
    · refine ImplS1.assign ?_ ?_
      · refine ImplE.callB G rfl (g_sorted G hB) ?_ sorted_ok
        refine ImplEs.cons ?_ ?_
        · refine ImplE.frz ?_
          refine ImplE.compN (tv := ["k", "octet"]) (cp := ["rows"]) (caps := [1]) (size := sizeL) (gt := goesT) (Comp2Is.of rfl (by decide +kernel)) ?_ ?_ ?_ ?_ (turn_20 _ _ _ _ _ _ _ _ _)
          · refine ImplI.range G rfl (g_range G hB) ?_
            refine ImplEs.cons ?_ ?_
            · exact ImplE.cint
            exact ImplEs.nil
          · exact ImplA.name (i := 0) rfl rfl
          · exact ImplC.nil
          refine ImplM.two (size := sizeA) (gt := goesT) ?_ ?_ ?_ ?_
          · refine ImplI.any ?_
            refine ImplE.item2 ?_ ?_
            · exact ImplE.name (i := 2) rfl (by decide +kernel)
            exact ImplE.name (i := 0) rfl (by decide +kernel)
          · exact ImplA.name (i := 1) rfl rfl
          · exact ImplC.nil
          refine ImplE.tuple ?_
          refine ImplEs.cons ?_ ?_
          · exact ImplE.name (i := 1) rfl (by decide +kernel)
          refine ImplEs.cons ?_ ?_
          · exact ImplE.name (i := 0) rfl (by decide +kernel)
          exact ImplEs.nil
        exact ImplEs.nil
      exact ImplA.name (i := 5) rfl rfl
    refine ImplS.cons ?_ ?_
    · refine ImplS1.assign ?_ ?_
      · refine ImplE.listMut ?_
        exact ImplEs.nil
      exact ImplA.name (i := 6) rfl rfl
    refine ImplS.cons ?_ ?_
    · refine ImplS1.for (size := sizeL) (gt := goesT) ?_ ?_ ?_
      · refine ImplI.range G rfl (g_range G hB) ?_
        refine ImplEs.cons ?_ ?_
        · refine ImplE.callB G rfl (g_len G hB) ?_ lenB_ok
          refine ImplEs.cons ?_ ?_
          · exact ImplE.name (i := 5) rfl (by decide +kernel)
          exact ImplEs.nil
        exact ImplEs.nil
      · exact ImplA.name (i := 7) rfl rfl
      refine ImplS.cons ?_ ?_
      · refine ImplS1.assign ?_ ?_
        · refine ImplE.callFn G rfl (g_law_least G) r_law_least ?_ (k_law_least G hB)
          refine ImplEs.cons ?_ ?_
          · exact ImplE.name (i := 3) rfl (by decide +kernel)
          exact ImplEs.nil
        exact ImplA.name (i := 8) rfl rfl
      refine ImplS.cons ?_ ?_
      · refine ImplS1.expr ?_
        refine ImplE.lmeth PySem.F.slot_list_append rfl ?_ ?_ append_ok
        · exact ImplE.name (i := 6) rfl (by decide +kernel)
        refine ImplEs.cons ?_ ?_
        · refine ImplE.tuple ?_
          refine ImplEs.cons ?_ ?_
          · refine ImplE.item2 ?_ ?_
            · refine ImplE.meth G cls m_getByteStream ?_ ?_ (f_getByteStream G)
              · refine ImplE.item2 ?_ ?_
                · exact ImplE.name (i := 3) rfl (by decide +kernel)
                exact ImplE.name (i := 8) rfl (by decide +kernel)
              exact ImplEs.nil
            exact ImplE.cint
          refine ImplEs.cons ?_ ?_
          · exact ImplE.name (i := 8) rfl (by decide +kernel)
          exact ImplEs.nil
        exact ImplEs.nil
      refine ImplS.cons ?_ ?_
      · refine ImplS1.expr ?_
        refine ImplE.lmeth PySem.F.slot_list_extend rfl ?_ ?_ extend_ok
        · exact ImplE.name (i := 4) rfl (by decide +kernel)
        refine ImplEs.cons ?_ ?_
        · refine ImplE.callFn G rfl (g_law_taken G) r_law_taken ?_ (k_law_taken G hB)
          refine ImplEs.cons ?_ ?_
          · refine ImplE.item2 ?_ ?_
            · exact ImplE.name (i := 3) rfl (by decide +kernel)
            exact ImplE.name (i := 8) rfl (by decide +kernel)
          refine ImplEs.cons ?_ ?_
          · exact ImplE.name (i := 7) rfl (by decide +kernel)
          exact ImplEs.nil
        exact ImplEs.nil
      exact ImplS.nil
    refine ImplS.cons ?_ ?_
    · refine ImplS1.ite ?_ ?_ ?_
      · refine ImplT.cmp ?_ ?_ ne_ok
        · exact ImplE.name (i := 6) rfl (by decide +kernel)
        exact ImplE.name (i := 5) rfl (by decide +kernel)
      · refine ImplS.cons ?_ ?_
        · refine ImplS1.ret ?_
          exact ImplE.cbool
        exact ImplS.nil
      exact ImplS.nil
    refine ImplS.cons ?_ ?_
    · refine ImplS1.for (size := sizeL) (gt := goesT) ?_ ?_ ?_
      · refine ImplI.list ?_
        refine ImplE.list ?_
        refine ImplEs.cons ?_ ?_
        · exact ImplE.cint
        refine ImplEs.cons ?_ ?_
        · exact ImplE.cint
        refine ImplEs.cons ?_ ?_
        · exact ImplE.cint
        refine ImplEs.cons ?_ ?_
        · exact ImplE.cint
        refine ImplEs.cons ?_ ?_
        · exact ImplE.cint
        refine ImplEs.cons ?_ ?_
        · exact ImplE.cint
        refine ImplEs.cons ?_ ?_
        · exact ImplE.cint
        refine ImplEs.cons ?_ ?_
        · exact ImplE.cint
        exact ImplEs.nil
      · exact ImplA.name (i := 8) rfl rfl
      refine ImplS.cons ?_ ?_
      · refine ImplS1.frz ?_
        refine ImplS1.assignCompN (i := 9) (tv := ["turn"]) (cp := ["k", "pairs"]) (caps := [8, 5]) (size := sizeL) (gt := goesT) (Comp2Is.of rfl (by decide +kernel)) ?_ ?_ ?_ ?_ (turn_1 _ _ _ _ _ _) rfl rfl
        · refine ImplI.range G rfl (g_range G hB) ?_
          refine ImplEs.cons ?_ ?_
          · refine ImplE.callB G rfl (g_len G hB) ?_ lenB_ok
            refine ImplEs.cons ?_ ?_
            · exact ImplE.name (i := 5) rfl (by decide +kernel)
            exact ImplEs.nil
          exact ImplEs.nil
        · exact ImplA.name (i := 0) rfl rfl
        · refine ImplC.one ?_
          refine ImplT.cmp ?_ ?_ eq_ok
          · refine ImplE.item2 ?_ ?_
            · refine ImplE.item2 ?_ ?_
              · exact ImplE.name (i := 2) rfl (by decide +kernel)
              exact ImplE.name (i := 0) rfl (by decide +kernel)
            exact ImplE.cint
          exact ImplE.name (i := 1) rfl (by decide +kernel)
        refine ImplM.one ?_
        exact ImplE.name (i := 0) rfl (by decide +kernel)
      refine ImplS.cons ?_ ?_
      · refine ImplS1.assign ?_ ?_
        · refine ImplE.list ?_
          refine ImplEs.cons ?_ ?_
          · refine ImplE.item2 ?_ ?_
            · exact ImplE.name (i := 2) rfl (by decide +kernel)
            exact ImplE.name (i := 8) rfl (by decide +kernel)
          refine ImplEs.cons ?_ ?_
          · exact ImplE.cnone
          refine ImplEs.cons ?_ ?_
          · exact ImplE.cnone
          refine ImplEs.cons ?_ ?_
          · exact ImplE.cbytes
          refine ImplEs.cons ?_ ?_
          · exact ImplE.cnone
          exact ImplEs.nil
        exact ImplA.name (i := 10) rfl rfl
      refine ImplS.cons ?_ ?_
      · refine ImplS1.ite ?_ ?_ ?_
        · refine ImplT.cmp ?_ ?_ ne_ok
          · exact ImplE.name (i := 9) rfl (by decide +kernel)
          refine ImplE.list ?_
          exact ImplEs.nil
        · refine ImplS.cons ?_ ?_
          · refine ImplS1.assign ?_ ?_
            · refine ImplE.list ?_
              refine ImplEs.cons ?_ ?_
              · exact ImplE.cint
              refine ImplEs.cons ?_ ?_
              · refine ImplE.callB G rfl (g_len G hB) ?_ lenB_ok
                refine ImplEs.cons ?_ ?_
                · exact ImplE.name (i := 9) rfl (by decide +kernel)
                exact ImplEs.nil
              refine ImplEs.cons ?_ ?_
              · refine ImplE.item2 ?_ ?_
                · exact ImplE.name (i := 9) rfl (by decide +kernel)
                refine ImplE.neg ?_
                exact ImplE.cint
              refine ImplEs.cons ?_ ?_
              · exact ImplE.cbytes
              refine ImplEs.cons ?_ ?_
              · refine ImplE.join ?_ ?_
                · exact ImplE.cstr
                refine ImplEs.cons ?_ ?_
                · refine ImplE.frz ?_
                  refine ImplE.compN (tv := ["octet"]) (cp := []) (caps := []) (size := sizeA) (gt := goesT) (Comp2Is.of rfl (by decide +kernel)) ?_ ?_ ?_ ?_ (turn_1 _ _ _ _ _ _)
                  · refine ImplI.any ?_
                    refine ImplE.item2 ?_ ?_
                    · exact ImplE.name (i := 1) rfl (by decide +kernel)
                    exact ImplE.name (i := 8) rfl (by decide +kernel)
                  · exact ImplA.name (i := 0) rfl rfl
                  · exact ImplC.nil
                  refine ImplM.one ?_
                  refine ImplE.callB G rfl (g_chr G hB) ?_ chr_ok
                  refine ImplEs.cons ?_ ?_
                  · exact ImplE.name (i := 0) rfl (by decide +kernel)
                  exact ImplEs.nil
                exact ImplEs.nil
              exact ImplEs.nil
            exact ImplA.name (i := 10) rfl rfl
          exact ImplS.nil
        exact ImplS.nil
      refine ImplS.cons ?_ ?_
      · refine ImplS1.ite ?_ ?_ ?_
        · refine ImplT.cmp ?_ ?_ ne_ok
          · refine ImplE.callFn G rfl (g_law_told G) r_law_told ?_ (k_law_told G hB)
            refine ImplEs.cons ?_ ?_
            · refine ImplE.item2 ?_ ?_
              · exact ImplE.name (i := 3) rfl (by decide +kernel)
              exact ImplE.name (i := 8) rfl (by decide +kernel)
            exact ImplEs.nil
          exact ImplE.name (i := 10) rfl (by decide +kernel)
        · refine ImplS.cons ?_ ?_
          · refine ImplS1.ret ?_
            exact ImplE.cbool
          exact ImplS.nil
        exact ImplS.nil
      exact ImplS.nil
    refine ImplS.cons ?_ ?_
    · refine ImplS1.ret ?_
      refine ImplE.cmp ?_ ?_ eq_ok
      · exact ImplE.name (i := 4) rfl (by decide +kernel)
      refine ImplE.bin ?_ ?_ mulL_ok
      · refine ImplE.list ?_
        refine ImplEs.cons ?_ ?_
        · exact ImplE.cnone
        exact ImplEs.nil
      refine ImplE.callB G rfl (g_len G hB) ?_ lenB_ok
      refine ImplEs.cons ?_ ?_
      · exact ImplE.name (i := 4) rfl (by decide +kernel)
      exact ImplEs.nil
    exact ImplS.nil

  refine ⟨.inl ⟨.bool true, .bool true, [], rfl, raisesW_false ?_, .bool true, ?_, fun _ => ⟨List.nodup_nil, fun _ h => by cases h⟩⟩, k1, k3, k2.trans ‹_›⟩
  · wrow_none_raised
  · first | wrow_post | kc_post)
