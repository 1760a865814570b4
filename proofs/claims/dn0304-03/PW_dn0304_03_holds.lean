import PyProof.Rows.All
import Wide.All
import OpenK.AllK
import Wide.FinOn
import PySem.Challenge.RW_dn0304_03
open PySem PySem.W PyProof.Rows
set_option Elab.async false
set_option maxRecDepth 100000
set_option linter.unusedVariables false
namespace Mine


inductive AV where
  | unb
  | none
  | bool (b : Bool)
  | int (i : Int)
  | str (s : Str)
  | bytes (b : Array UInt8)
  | val (v : Value)
  | ins (k : Nat)
  | lob (k : Nat)
  | lst (xs : List AV)
  | tup (xs : List AV)
  | lsb (xs : List AV)
inductive Fd where
  | sys | pub | enc | byt | chr
structure Ins where
  sys : AV
  pub : AV
  enc : AV
  byt : AV
  chr : AV
noncomputable def Ins.get (i : Ins) : Fd → AV
  | .sys => i.sys
  | .pub => i.pub
  | .enc => i.enc
  | .byt => i.byt
  | .chr => i.chr
noncomputable def Ins.put (i : Ins) (v : AV) : Fd → Ins
  | .sys => { i with sys := v }
  | .pub => { i with pub := v }
  | .enc => { i with enc := v }
  | .byt => { i with byt := v }
  | .chr => { i with chr := v }
abbrev LH := List (List (Nat × List AV))
structure AS where
  loc : List AV
  ins : List Ins
  lst : LH
  nl : Nat
noncomputable def lookL (k : Nat) : List (Nat × List AV) → Option (List AV)
  | [] => .none
  | (j, xs) :: r => if k = j then some xs else lookL k r
noncomputable def getL1 (k : Nat) : LH → Option (List AV)
  | [] => .none
  | g :: r => match lookL k g with | some xs => some xs | .none => getL1 k r
noncomputable def putSeg (k : Nat) (ys : List AV) : List (Nat × List AV) → List (Nat × List AV)
  | [] => []
  | (j, xs) :: r => if k = j then (j, ys) :: r else (j, xs) :: putSeg k ys r
noncomputable def putL1 (k : Nat) (ys : List AV) : LH → LH
  | [] => []
  | g :: r => match lookL k g with | some _ => putSeg k ys g :: r | .none => g :: putL1 k ys r
noncomputable def pushL1 (k : Nat) (xs : List AV) : LH → LH
  | [] => [[(k, xs)]]
  | g :: r => ((k, xs) :: g) :: r

inductive Role where
  | oth
  | ins (k : Nat)
  | dct (k : Nat)
  | lob (k : Nat)
  | frz (o : Obj)
structure Wd where
  role : Addr → Role
  ia : Nat → Addr
  da : Nat → Addr
  la : Nat → Addr
  ni : Nat
  nl : Nat
noncomputable def Role.mut : Role → Prop
  | .ins _ | .dct _ | .lob _ => True
  | _ => False
noncomputable def Wd.Mut (W : Wd) (a : Addr) : Prop := (W.role a).mut
abbrev tupOf (its : Array Value) (n : Nat) : Obj := { cls := .type "tuple", data := .seq its n }
mutual
inductive VR (W : Wd) : Value → AV → Prop
  | none : VR W .none .none
  | bool (b : Bool) : VR W (.bool b) (.bool b)
  | int (i : Int) (t : Tok) : VR W (.int i t) (.int i)
  | str (x : Str) (t : Tok) : VR W (.str x t) (.str x)
  | bytes (x : Array UInt8) (t : Tok) : VR W (.bytes x t) (.bytes x)
  | val (v : Value) (h : handedIn v = true) : VR W v (.val v)
  | ins (k : Nat) : k < W.ni → VR W (.ref (W.ia k)) (.ins k)
  | lob (k : Nat) : k < W.nl → VR W (.ref (W.la k)) (.lob k)
  | lst {a : Addr} {vs : List Value} {n : Nat} {xs : List AV} : W.role a = .frz (listOf vs.toArray n) → VRs W vs xs → VR W (.ref a) (.lst xs)
  | tup {a : Addr} {o : Obj} {vs : List Value} {n : Nat} {xs : List AV} : W.role a = .frz o → o.cls = .type "tuple" → o.data = .seq vs.toArray n → VRs W vs xs → VR W (.ref a) (.tup xs)
  | lsb {a : Addr} {o : Obj} {vs : List Value} {n : Nat} {xs : List AV} : W.role a = .frz o → o.cls = .type "list" → o.data = .seq vs.toArray n → VRs W vs xs → VR W (.ref a) (.lsb xs)
inductive VRs (W : Wd) : List Value → List AV → Prop
  | nil : VRs W [] []
  | cons {v : Value} {vs : List Value} {x : AV} {xs : List AV} : VR W v x → VRs W vs xs → VRs W (v :: vs) (x :: xs)
end

theorem VR.handed {W : Wd} {v : Value} {x : AV} (h : VR W v x) : handedIn v = true := by
  cases h <;> first | rfl | assumption
theorem VR.inv_none {W : Wd} {v : Value} (h : VR W v .none) : v = .none := by cases h; rfl
theorem VR.inv_bool {W : Wd} {v : Value} {b : Bool} (h : VR W v (.bool b)) : v = .bool b := by cases h; rfl
theorem VR.inv_int {W : Wd} {v : Value} {i : Int} (h : VR W v (.int i)) : ∃ t, v = .int i t := by cases h; exact ⟨_, rfl⟩
theorem VR.inv_str {W : Wd} {v : Value} {i : Str} (h : VR W v (.str i)) : ∃ t, v = .str i t := by cases h; exact ⟨_, rfl⟩
theorem VR.inv_bytes {W : Wd} {v : Value} {i : Array UInt8} (h : VR W v (.bytes i)) : ∃ t, v = .bytes i t := by cases h; exact ⟨_, rfl⟩
theorem VRs.length {W : Wd} {vs : List Value} {xs : List AV} (h : VRs W vs xs) : vs.length = xs.length := by
  induction vs generalizing xs with
  | nil => cases h; rfl
  | cons v vs ih => cases h with | cons _ r => rw [List.length_cons, List.length_cons, ih r]
theorem VRs.append {W : Wd} {vs ws : List Value} {xs ys : List AV} (h : VRs W vs xs) (k : VRs W ws ys) : VRs W (vs ++ ws) (xs ++ ys) := by
  induction vs generalizing xs with
  | nil => cases h; exact k
  | cons v vs ih => cases h with | cons a r => exact .cons a (ih r)
theorem VRs.get {W : Wd} {vs : List Value} {xs : List AV} (h : VRs W vs xs) {i : Nat} {x : AV} (e : xs[i]? = some x) : ∃ v, vs[i]? = some v ∧ VR W v x := by
  induction vs generalizing xs i with
  | nil => cases h; simp at e
  | cons v vs ih =>
    cases h with
    | cons a r =>
      cases i with
      | zero => simp at e; subst e; exact ⟨v, rfl, a⟩
      | succ i => simp at e; exact ih r e
theorem VRs.getv {W : Wd} {vs : List Value} {xs : List AV} (h : VRs W vs xs) {i : Nat} {v : Value} (e : vs[i]? = some v) : ∃ x, xs[i]? = some x ∧ VR W v x := by
  induction vs generalizing xs i with
  | nil => simp at e
  | cons w vs ih =>
    cases h with
    | cons a r =>
      cases i with
      | zero => simp at e; subst e; exact ⟨_, rfl, a⟩
      | succ i => simp at e; exact ih r e
theorem VRs.reverse {W : Wd} : ∀ {vs : List Value} {xs : List AV}, VRs W vs xs → VRs W vs.reverse xs.reverse
  | _, _, .nil => .nil
  | _, _, .cons a r => by rw [List.reverse_cons, List.reverse_cons]; exact (VRs.reverse r).append (.cons a .nil)
theorem VRs.one {W : Wd} {v : Value} {x : AV} (hv : VR W v x) : VRs W [v] [x] := .cons hv .nil
structure Le (W W' : Wd) : Prop where
  ni : W.ni ≤ W'.ni
  nl : W.nl ≤ W'.nl
  ia : ∀ k, k < W.ni → W'.ia k = W.ia k
  da : ∀ k, k < W.ni → W'.da k = W.da k
  la : ∀ k, k < W.nl → W'.la k = W.la k
  frz : ∀ a o, W.role a = .frz o → W'.role a = .frz o
theorem Le.refl (W : Wd) : Le W W := ⟨Nat.le_refl _, Nat.le_refl _, fun _ _ => rfl, fun _ _ => rfl, fun _ _ => rfl, fun _ _ h => h⟩
theorem Le.trans {W W' W'' : Wd} (x : Le W W') (y : Le W' W'') : Le W W'' where
  ni := Nat.le_trans x.ni y.ni
  nl := Nat.le_trans x.nl y.nl
  ia := fun k h => (y.ia k (Nat.lt_of_lt_of_le h x.ni)).trans (x.ia k h)
  da := fun k h => (y.da k (Nat.lt_of_lt_of_le h x.ni)).trans (x.da k h)
  la := fun k h => (y.la k (Nat.lt_of_lt_of_le h x.nl)).trans (x.la k h)
  frz := fun a o h => y.frz a o (x.frz a o h)
mutual
theorem VR.mono {W W' : Wd} (L : Le W W') : ∀ {v : Value} {x : AV}, VR W v x → VR W' v x
  | _, _, .none => .none
  | _, _, .bool b => .bool b
  | _, _, .int i t => .int i t
  | _, _, .str x t => .str x t
  | _, _, .bytes x t => .bytes x t
  | _, _, .val v h => .val v h
  | _, _, .ins k h => by rw [← L.ia k h]; exact .ins k (Nat.lt_of_lt_of_le h L.ni)
  | _, _, .lob k h => by rw [← L.la k h]; exact .lob k (Nat.lt_of_lt_of_le h L.nl)
  | _, _, .lst h r => .lst (L.frz _ _ h) (VRs.mono L r)
  | _, _, .tup h h1 h2 r => .tup (L.frz _ _ h) h1 h2 (VRs.mono L r)
  | _, _, .lsb h h1 h2 r => .lsb (L.frz _ _ h) h1 h2 (VRs.mono L r)
theorem VRs.mono {W W' : Wd} (L : Le W W') : ∀ {vs : List Value} {xs : List AV}, VRs W vs xs → VRs W' vs xs
  | _, _, .nil => .nil
  | _, _, .cons a r => .cons (VR.mono L a) (VRs.mono L r)
end

noncomputable def fkey : Fd → Str
  | .sys => Str.ofString "_InputSource__system_id"
  | .pub => Str.ofString "_InputSource__public_id"
  | .enc => Str.ofString "_InputSource__encoding"
  | .byt => Str.ofString "_InputSource__bytefile"
  | .chr => Str.ofString "_InputSource__charfile"
inductive FieldsAre (W : Wd) : List DictEntry → Ins → Prop
  | mk {h1 h2 h3 h4 h5 : Int} {t1 t2 t3 t4 t5 : Tok} {v1 v2 v3 v4 v5 : Value} {i : Ins} :
      VR W v1 i.sys → VR W v2 i.pub → VR W v3 i.enc → VR W v4 i.byt → VR W v5 i.chr →
      FieldsAre W [⟨h1, .str (fkey .sys) t1, v1⟩, ⟨h2, .str (fkey .pub) t2, v2⟩, ⟨h3, .str (fkey .enc) t3, v3⟩, ⟨h4, .str (fkey .byt) t4, v4⟩, ⟨h5, .str (fkey .chr) t5, v5⟩] i
theorem FieldsAre.mono {W W' : Wd} (L : Le W W') {es : List DictEntry} {i : Ins} (h : FieldsAre W es i) : FieldsAre W' es i := by
  cases h with
  | mk a b c d e => exact .mk (a.mono L) (b.mono L) (c.mono L) (d.mono L) (e.mono L)
theorem fkey_is (f g : Fd) : (fkey f == fkey g) = decide (f.ctorIdx = g.ctorIdx) := by
  cases f <;> cases g <;> decide +kernel
theorem FieldsAre.get {W : Wd} {es : List DictEntry} {i : Ins} (h : FieldsAre W es i) (f : Fd) : ∃ v, PySem.W.getL (fkey f) es = some (some v) ∧ VR W v (i.get f) := by
  cases h with
  | mk a b c d e =>
    cases f <;> simp only [PySem.W.getL, List.find?, Value.isStr, fkey_is]
    · exact ⟨_, rfl, a⟩
    · exact ⟨_, rfl, b⟩
    · exact ⟨_, rfl, c⟩
    · exact ⟨_, rfl, d⟩
    · exact ⟨_, rfl, e⟩
theorem FieldsAre.put {W : Wd} {es : List DictEntry} {i : Ins} (h : FieldsAre W es i) (f : Fd) {v : Value} {x : AV} (hv : VR W v x) (hsh : Int) (key : Value) :
    FieldsAre W (PySem.W.putL (fkey f) hsh key v es) (i.put x f) := by
  cases h with
  | mk a b c d e =>
    cases f <;> simp only [PySem.W.putL, Value.isStr, fkey_is]
    · exact .mk hv b c d e
    · exact .mk a hv c d e
    · exact .mk a b hv d e
    · exact .mk a b c hv e
    · exact .mk a b c d hv
theorem FieldsAre.len {W : Wd} {es : List DictEntry} {i : Ins} (h : FieldsAre W es i) : es.length = 5 := by cases h; rfl
end Mine

namespace Mine

structure Cx where
  prog : Program
  w : World
  K : Frag
  C : Addr
  h0 : Heap
  mg : Str → Option Value
  mb : Str → Option Value
structure HR (c : Cx) (W : Wd) (st : AS) (h : Heap) : Prop where
  keep : ∀ a o, c.h0.get? a = some o → h.get? a = some o
  mutA : ∀ a, W.Mut a → c.h0.get? a = .none
  lt : ∀ a, W.role a = .oth ∨ ∃ o, h.get? a = some o
  frz : ∀ a o, W.role a = .frz o → h.get? a = some o
  ni : W.ni = st.ins.length
  nl : W.nl = st.nl
  iaR : ∀ k, k < W.ni → W.role (W.ia k) = .ins k ∧ W.role (W.da k) = .dct k
  insA : ∀ k i, st.ins[k]? = some i → ∃ es n, h.get? (W.ia k) = some (instObj c.C (W.da k)) ∧ h.get? (W.da k) = some (dictOf es n) ∧ FieldsAre W es i
  lstA : ∀ g ∈ st.lst, ∀ p ∈ g, p.1 < W.nl ∧ W.role (W.la p.1) = .lob p.1 ∧ ∃ vs n, h.get? (W.la p.1) = some (listOf vs.toArray n) ∧ VRs W vs p.2
  nodup : (st.lst.flatten.map (·.1)).Nodup
structure Sx where
  sc : Scope
  vars : List Str
  wr : List Str
structure Pl where
  A : Around
  sx : Sx
  env : Env
  wc : List Addr
noncomputable def Pl.Own (p : Pl) (a : Addr) : Prop := a = p.env.locals ∨ a ∈ p.wc
structure FrV (c : Cx) (p : Pl) (W : Wd) (loc : List AV) (h : Heap) : Prop where
  ns : ∃ ml, h.Ns p.env.locals ml ∧ ∀ (i : Nat) (x : Str) (v : AV), p.sx.vars[i]? = some x → loc[i]? = some v → v ≠ .unb → p.env.kindOf x = some .local → ∃ val, ml x = some val ∧ VR W val v
  cl : ∀ (i : Nat) (x : Str) (v : AV), p.sx.vars[i]? = some x → loc[i]? = some v → v ≠ .unb → p.env.kindOf x = some .cell → ∃ val a, p.env.cells.lookup x = some a ∧ h.IsCell a (some val) ∧ VR W val v
  cells : ∀ x a, p.env.cells.lookup x = some a → ∃ v, h.IsCell a v
  hasCell : ∀ x, x ∈ p.sx.vars → p.env.kindOf x = some .cell → ∃ a, p.env.cells.lookup x = some a ∧ (x ∈ p.sx.wr → a ∈ p.wc)
  kinds : ∀ x, x ∈ p.sx.vars → p.env.kindOf x = some .local ∨ p.env.kindOf x = some .cell
  apart : p.env.cells.Pairwise fun x y => x.2 ≠ y.2
  wcIn : ∀ a ∈ p.wc, ∃ x, p.env.cells.lookup x = some a
  roleL : W.role p.env.locals = .oth
  roleC : ∀ x a, p.env.cells.lookup x = some a → W.role a = .oth ∧ a ≠ p.env.locals ∧ c.h0.get? a = .none
  lo : c.h0.get? p.env.locals = .none
  scope : p.env.scope = p.sx.sc
  kind : p.sx.sc.kind = .function
  globals : p.env.globals = mainGlobals
  builtins : p.env.builtins = builtinsNs
  nodup : p.sx.vars.Nodup
structure Inv (c : Cx) (p : Pl) (W : Wd) (st : AS) (s : Shared) : Prop where
  hr : HR c W st s.heap
  fr : FrV c p W st.loc s.heap
structure Ext (own : Addr → Prop) (W : Wd) (s : Shared) (W' : Wd) (s' : Shared) : Prop where
  le : Le W W'
  alive : ∀ a o, s.heap.get? a = some o → ∃ o', s'.heap.get? a = some o'
  oth : ∀ a o, s.heap.get? a = some o → W.role a = .oth → W'.role a = .oth
  kept : ∀ a o, ¬ W.Mut a → ¬ own a → s.heap.get? a = some o → s'.heap.get? a = some o
  gens : s'.gens = s.gens
  os : s'.os = s.os
theorem Role.cases_mut (r : Role) : r.mut ∨ r = .oth ∨ ∃ o, r = .frz o := by
  cases r <;> simp [Role.mut]
theorem Ext.unmut {own : Addr → Prop} {W W' : Wd} {s s' : Shared} (x : Ext own W s W' s') {a : Addr} {o : Obj} (ha : s.heap.get? a = some o) (hm : ¬ W.Mut a) : ¬ W'.Mut a := by
  rcases Role.cases_mut (W.role a) with h | h | ⟨o, h⟩
  · exact absurd h hm
  · unfold Wd.Mut; rw [x.oth a _ ha h]; simp [Role.mut]
  · unfold Wd.Mut; rw [x.le.frz a o h]; simp [Role.mut]
theorem Ext.refl (own : Addr → Prop) (W : Wd) (s : Shared) : Ext own W s W s :=
  ⟨Le.refl W, fun _ o h => ⟨o, h⟩, fun _ _ _ h => h, fun _ _ _ _ h => h, rfl, rfl⟩
theorem Ext.trans {own : Addr → Prop} {W W' W'' : Wd} {s s' s'' : Shared} (x : Ext own W s W' s') (y : Ext own W' s' W'' s'') : Ext own W s W'' s'' where
  le := x.le.trans y.le
  alive := fun a o h => let ⟨o1, h1⟩ := x.alive a o h; y.alive a o1 h1
  oth := fun a o h e => let ⟨o1, h1⟩ := x.alive a o h; y.oth a o1 h1 (x.oth a o h e)
  kept := fun a o hm ho e => y.kept a o (x.unmut e hm) ho (x.kept a o hm ho e)
  gens := y.gens.trans x.gens
  os := y.os.trans x.os
theorem Ext.weaken {own own' : Addr → Prop} {W W' : Wd} {s s' : Shared} (x : Ext own W s W' s') (h : ∀ a, own a → own' a) : Ext own' W s W' s' :=
  ⟨x.le, x.alive, x.oth, fun a o hm ho e => x.kept a o hm (fun q => ho (h a q)) e, x.gens, x.os⟩
theorem Ext.toks {own : Addr → Prop} {W W' : Wd} {s s' : Shared} (x : Ext own W s W' s') (tk : Nat) : Ext own W s W' { s' with toks := tk } :=
  ⟨x.le, x.alive, x.oth, x.kept, x.gens, x.os⟩
theorem Heap.IsCell.at' {h h' : Heap} {a : Addr} {v : Option Value} (x : h.IsCell a v) (k : ∀ o, h.get? a = some o → h'.get? a = some o) : h'.IsCell a v :=
  let ⟨o, ho, hd⟩ := x; ⟨o, k o ho, hd⟩
theorem Heap.Ns.at' {h h' : Heap} {a : Addr} {m : Str → Option Value} (x : h.Ns a m) (k : ∀ o, h.get? a = some o → h'.get? a = some o) : h'.Ns a m :=
  let ⟨o, es, ep, ho, r⟩ := x; ⟨o, es, ep, k o ho, r⟩
theorem FrV.ext {c : Cx} {p : Pl} {W W' : Wd} {loc : List AV} {s s' : Shared} {own : Addr → Prop} (F : FrV c p W loc s.heap) (x : Ext own W s W' s')
    (hL : ¬ own p.env.locals) (hC : ∀ y a, p.env.cells.lookup y = some a → ¬ own a) : FrV c p W' loc s'.heap := by
  have kL : ∀ o, s.heap.get? p.env.locals = some o → s'.heap.get? p.env.locals = some o := fun o e => x.kept _ o (by unfold Wd.Mut; rw [F.roleL]; simp [Role.mut]) hL e
  have kC : ∀ y a, p.env.cells.lookup y = some a → ∀ o, s.heap.get? a = some o → s'.heap.get? a = some o := fun y a hm o e => x.kept _ o (by unfold Wd.Mut; rw [(F.roleC y a hm).1]; simp [Role.mut]) (hC y a hm) e
  obtain ⟨ml, hns, hml⟩ := F.ns
  refine ⟨⟨ml, Heap.Ns.at' hns kL, fun i y v h1 h2 h3 h4 => ?_⟩, fun i y v h1 h2 h3 h4 => ?_, fun y a e => ?_, F.hasCell, F.kinds, F.apart, F.wcIn, (let ⟨_, _, _, ho, _⟩ := hns; x.oth _ _ ho F.roleL), fun y a hm => ?_, F.lo, F.scope, F.kind, F.globals, F.builtins, F.nodup⟩
  · obtain ⟨val, e, r⟩ := hml i y v h1 h2 h3 h4; exact ⟨val, e, r.mono x.le⟩
  · obtain ⟨val, a, e, q, r⟩ := F.cl i y v h1 h2 h3 h4; exact ⟨val, a, e, Heap.IsCell.at' q (kC y a e), r.mono x.le⟩
  · obtain ⟨v, q⟩ := F.cells y a e; exact ⟨v, Heap.IsCell.at' q (kC y a e)⟩
  · obtain ⟨r1, r2, r3⟩ := F.roleC y a hm
    obtain ⟨v, q⟩ := F.cells y a hm
    exact ⟨(let ⟨_, ho, _⟩ := q; x.oth a _ ho r1), r2, r3⟩
noncomputable def Ok (c : Cx) (p : Pl) {α β : Type} (W0 : Wd) (t : Sem α) (R : Wd → α → β → Prop) (f : AS → Option (β × AS)) : Prop :=
  ∀ (W : Wd) (st : AS) (s : Shared), Le W0 W → Inv c p W st s → ∀ (b : β) (st' : AS), f st = some (b, st') →
    ∀ (Q : α → Shared → Prop) (E : Value → Shared → Prop), (∀ W' a s', Ext p.Own W s W' s' → Inv c p W' st' s' → R W' a b → Q a s') → wpAny (model c.prog c.w) p.A t Q E s
noncomputable def bd {α β : Type} (f : AS → Option (α × AS)) (g : α → AS → Option (β × AS)) : AS → Option (β × AS) := fun st =>
  match f st with
  | some (a, st') => g a st'
  | .none => .none
noncomputable def pu {α : Type} (a : α) : AS → Option (α × AS) := fun st => some (a, st)
noncomputable def no {α : Type} : AS → Option (α × AS) := fun _ => .none
theorem bd_some {α β : Type} {f : AS → Option (α × AS)} {g : α → AS → Option (β × AS)} {st st' : AS} {b : β} (h : bd f g st = some (b, st')) : ∃ a st1, f st = some (a, st1) ∧ g a st1 = some (b, st') := by
  unfold bd at h
  split at h
  · exact ⟨_, _, by assumption, h⟩
  · cases h
theorem Ok.of {c : Cx} {p : Pl} {α β : Type} {W0 : Wd} {t t' : Sem α} {R : Wd → α → β → Prop} {f : AS → Option (β × AS)} (h : Ok c p W0 t' R f)
    (k : ∀ (s : Shared) (Q : α → Shared → Prop) (E : Value → Shared → Prop), wpAny (model c.prog c.w) p.A t' Q E s → wpAny (model c.prog c.w) p.A t Q E s) : Ok c p W0 t R f :=
  fun W st s hle I b st' e Q E hQ => k s Q E (h W st s hle I b st' e Q E hQ)
theorem Inv.toks {c : Cx} {p : Pl} {W : Wd} {st : AS} {s : Shared} (I : Inv c p W st s) (tk : Nat) : Inv c p W st { s with toks := tk } := ⟨I.hr, I.fr⟩
noncomputable def Room (n : Nat) (A : Around) : Prop := A.handled = .none ∧ A.depth + 2 * n ≤ 900 ∧ A.units + 100 * n + 100 ≤ 9000
theorem Room.units {n : Nat} {A : Around} (h : Room n A) : A.units + 64 < cLine := by have := h.2.2; unfold cLine; omega
theorem Room.depth {n : Nat} {A : Around} (h : Room n A) : A.depth < recursionLimit := by have := h.2.1; unfold recursionLimit; omega
theorem Room.deeper {n : Nat} {A : Around} (h : Room (n + 1) A) (env : Env) : Room n (A.deeper env) :=
  ⟨h.1, by have := h.2.1; show A.depth + 1 + 2 * n ≤ 900; omega, by have := h.2.2; show A.units + 3 + 100 * n + 100 ≤ 9000; omega⟩
noncomputable def ImplE (c : Cx) (n : Nat) (sx : Sx) (e : Expr) (f : AS → Option (AV × AS)) : Prop := ∀ p : Pl, p.sx = sx → Room n p.A → ∀ W0, Ok c p W0 (eval e p.env) VR f
end Mine

namespace Mine


theorem HR.grow {c : Cx} {W : Wd} {st : AS} {h h' : Heap} (H : HR c W st h) (k : ∀ b o, ((∃ o', c.h0.get? b = some o') ∨ W.role b ≠ .oth) → h.get? b = some o → h'.get? b = some o) : HR c W st h' where
  keep := fun a o e => k a o (.inl ⟨o, e⟩) (H.keep a o e)
  mutA := H.mutA
  lt := fun a => by
    rcases Classical.em (W.role a = .oth) with q | q
    · exact .inl q
    · exact (H.lt a).imp id fun ⟨o, h⟩ => ⟨o, k a o (.inr q) h⟩
  frz := fun a o e => k a o (.inr (by rw [e]; intro q; cases q)) (H.frz a o e)
  ni := H.ni
  nl := H.nl
  iaR := H.iaR
  insA := fun q i e => by
    obtain ⟨es, n, e1, e2, r⟩ := H.insA q i e
    have hq : q < W.ni := by rw [H.ni]; exact (List.getElem?_eq_some_iff.mp e).1
    obtain ⟨r1, r2⟩ := H.iaR q hq
    exact ⟨es, n, k _ _ (.inr (by rw [r1]; intro q; cases q)) e1, k _ _ (.inr (by rw [r2]; intro q; cases q)) e2, r⟩
  lstA := fun g hg p hp => by
    obtain ⟨h1, h2, vs, n, h3, h4⟩ := H.lstA g hg p hp
    exact ⟨h1, h2, vs, n, k _ _ (.inr (by rw [h2]; intro q; cases q)) h3, h4⟩
  nodup := H.nodup
theorem FrV.grow {c : Cx} {p : Pl} {W : Wd} {loc : List AV} {h h' : Heap} (F : FrV c p W loc h) (k : ∀ b o, (b = p.env.locals ∨ ∃ x, p.env.cells.lookup x = some b) → h.get? b = some o → h'.get? b = some o) : FrV c p W loc h' := by
  obtain ⟨ml, hns, hml⟩ := F.ns
  refine ⟨⟨ml, Heap.Ns.at' hns fun o e => k _ _ (.inl rfl) e, hml⟩, fun i y v h1 h2 h3 h4 => ?_, fun y a e => ?_, F.hasCell, F.kinds, F.apart, F.wcIn, F.roleL, F.roleC, F.lo, F.scope, F.kind, F.globals, F.builtins, F.nodup⟩
  · obtain ⟨val, a, e, q, r⟩ := F.cl i y v h1 h2 h3 h4
    exact ⟨val, a, e, Heap.IsCell.at' q fun o e' => k _ _ (.inr ⟨y, e⟩) e', r⟩
  · obtain ⟨v, q⟩ := F.cells y a e
    exact ⟨v, Heap.IsCell.at' q fun o e' => k _ _ (.inr ⟨y, e⟩) e'⟩
theorem FrV.localsLt {c : Cx} {p : Pl} {W : Wd} {loc : List AV} {h : Heap} (F : FrV c p W loc h) : p.env.locals < h.objs.size := let ⟨_, e, _⟩ := F.ns; e.lt
theorem FrV.cellLt {c : Cx} {p : Pl} {W : Wd} {loc : List AV} {h : Heap} (F : FrV c p W loc h) {x : Str} {a : Addr} (hm : p.env.cells.lookup x = some a) : a < h.objs.size := let ⟨_, q⟩ := F.cells x a hm; q.lt
theorem FrV.ownOth {c : Cx} {p : Pl} {W : Wd} {loc : List AV} {h : Heap} (F : FrV c p W loc h) {a : Addr} (hm : p.Own a) : W.role a = .oth := by
  rcases hm with rfl | hm
  · exact F.roleL
  · obtain ⟨x, hx⟩ := F.wcIn a hm; exact (F.roleC x a hx).1
theorem FrV.mono {c : Cx} {p : Pl} {W W' : Wd} {loc : List AV} {h : Heap} (F : FrV c p W loc h) (L : Le W W') (hL : W'.role p.env.locals = .oth) (hC : ∀ x a, p.env.cells.lookup x = some a → W'.role a = .oth) : FrV c p W' loc h := by
  obtain ⟨ml, hns, hml⟩ := F.ns
  refine ⟨⟨ml, hns, fun i y v h1 h2 h3 h4 => ?_⟩, fun i y v h1 h2 h3 h4 => ?_, F.cells, F.hasCell, F.kinds, F.apart, F.wcIn, hL, fun x a hm => ⟨hC x a hm, (F.roleC x a hm).2⟩, F.lo, F.scope, F.kind, F.globals, F.builtins, F.nodup⟩
  · obtain ⟨val, e, r⟩ := hml i y v h1 h2 h3 h4; exact ⟨val, e, r.mono L⟩
  · obtain ⟨val, a, e, q, r⟩ := F.cl i y v h1 h2 h3 h4; exact ⟨val, a, e, q, r.mono L⟩
theorem Inv.keeps {c : Cx} {p : Pl} {W : Wd} {st : AS} {s s' : Shared} (I : Inv c p W st s) (x : ∀ b o, s.heap.get? b = some o → s'.heap.get? b = some o) : Inv c p W st s' :=
  ⟨I.hr.grow (fun b o _ e => x b o e), I.fr.grow fun b o _ e => x b o e⟩
theorem Ext.keeps (own : Addr → Prop) (W : Wd) {s s' : Shared} (x : ∀ b o, s.heap.get? b = some o → s'.heap.get? b = some o) (hg : s'.gens = s.gens) (ho : s'.os = s.os) : Ext own W s W s' :=
  ⟨Le.refl W, fun a o e => ⟨o, x a o e⟩, fun _ _ _ h => h, fun a o _ _ e => x a o e, hg, ho⟩
noncomputable def Wd.set (W : Wd) (a : Addr) (r : Role) : Wd := { W with role := fun b => if b = a then r else W.role b }
theorem Wd.set_role (W : Wd) (a b : Addr) (r : Role) : (W.set a r).role b = if b = a then r else W.role b := rfl
theorem Wd.set_other {W : Wd} {a b : Addr} {r : Role} (h : b ≠ a) : (W.set a r).role b = W.role b := if_neg h
theorem Wd.set_self {W : Wd} {a : Addr} {r : Role} : (W.set a r).role a = r := if_pos rfl
theorem Le.set {W : Wd} {a : Addr} {r : Role} (h : W.role a = .oth) : Le W (W.set a r) :=
  ⟨Nat.le_refl _, Nat.le_refl _, fun _ _ => rfl, fun _ _ => rfl, fun _ _ => rfl, fun b o e => by
    rw [Wd.set_other]; exact e
    intro q; rw [q, h] at e; cases e⟩
theorem get_none_of_ge {h : Heap} {a : Addr} (ha : h.objs.size ≤ a) : h.get? a = .none := by
  cases e : h.get? a with
  | none => rfl
  | some o => exact absurd (Heap.lt_size e) (Nat.not_lt.mpr ha)
theorem HR.oth_of_none {c : Cx} {W : Wd} {st : AS} {h : Heap} (H : HR c W st h) {a : Addr} (ha : h.get? a = .none) : W.role a = .oth :=
  (H.lt a).elim id fun ⟨o, q⟩ => by rw [ha] at q; cases q
theorem HR.oth_of_ge {c : Cx} {W : Wd} {st : AS} {h : Heap} (H : HR c W st h) {a : Addr} (ha : h.objs.size ≤ a) : W.role a = .oth := H.oth_of_none (get_none_of_ge ha)
theorem HR.base_none {c : Cx} {W : Wd} {st : AS} {h : Heap} (H : HR c W st h) {a : Addr} (ha : h.get? a = .none) : c.h0.get? a = .none := by
  cases e : c.h0.get? a with
  | none => rfl
  | some o => rw [H.keep a o e] at ha; cases ha
theorem HR.newFrz {c : Cx} {W : Wd} {st : AS} {h : Heap} {a : Addr} {o : Obj} (H : HR c W st h) (hr : W.role a = .oth) (ho : h.get? a = some o) : HR c (W.set a (.frz o)) st h := by
  have L : Le W (W.set a (.frz o)) := Le.set hr
  have ne : ∀ b, W.role b ≠ .oth → (W.set a (.frz o)).role b = W.role b := fun b hb => Wd.set_other fun q => hb (q ▸ hr)
  refine ⟨H.keep, fun b hb => ?_, fun b => ?_, fun b o' e => ?_, H.ni, H.nl, fun k hk => ?_, fun k i e => ?_, fun g hg p hp => ?_, H.nodup⟩
  · refine H.mutA b ?_
    unfold Wd.Mut at hb ⊢
    rw [Wd.set_role] at hb
    split at hb
    · exact hb.elim
    · exact hb
  · rw [Wd.set_role]
    split
    · rename_i q; subst q; exact .inr ⟨o, ho⟩
    · exact H.lt b
  · rw [Wd.set_role] at e
    split at e
    · rename_i q; subst q; cases e; exact ho
    · exact H.frz b o' e
  · obtain ⟨r1, r2⟩ := H.iaR k hk
    exact ⟨(ne (W.ia k) (by rw [r1]; intro q; cases q)).trans r1, (ne (W.da k) (by rw [r2]; intro q; cases q)).trans r2⟩
  · obtain ⟨es, n, e1, e2, r⟩ := H.insA k i e
    exact ⟨es, n, e1, e2, r.mono L⟩
  · obtain ⟨h1, h2, vs, n, h3, h4⟩ := H.lstA g hg p hp
    exact ⟨h1, (ne (W.la p.1) (by rw [h2]; intro q; cases q)).trans h2, vs, n, h3, h4.mono L⟩
theorem Inv.newFrz {c : Cx} {p : Pl} {W : Wd} {st : AS} {s : Shared} {a : Addr} {o : Obj} (I : Inv c p W st s) (hr : W.role a = .oth) (ho : s.heap.get? a = some o) (hL : a ≠ p.env.locals) (hC : ∀ y, p.env.cells.lookup y ≠ some a) :
    Inv c p (W.set a (.frz o)) st s :=
  ⟨I.hr.newFrz hr ho, I.fr.mono (Le.set hr) ((Wd.set_other (Ne.symm hL)).trans I.fr.roleL) fun y b hm => (Wd.set_other (show b ≠ a from fun q => hC y (q ▸ hm))).trans (I.fr.roleC y b hm).1⟩
theorem Inv.pushFrz {c : Cx} {p : Pl} {W : Wd} {st : AS} {s : Shared} (I : Inv c p W st s) (o : Obj) (tk : Nat) (hf : o.isFreed = false := by rfl) :
    Inv c p (W.set s.heap.objs.size (.frz o)) st { s with heap := s.heap.push o, toks := tk } ∧ Ext p.Own W s (W.set s.heap.objs.size (.frz o)) { s with heap := s.heap.push o, toks := tk } := by
  have hr := I.hr.oth_of_ge (Nat.le_refl s.heap.objs.size)
  have I' : Inv c p W st { s with heap := s.heap.push o, toks := tk } := I.keeps (fun _ _ e => Heap.get?_push_of_some _ e)
  refine ⟨I'.newFrz hr (Heap.get?_push_size _ hf) (Nat.ne_of_gt I.fr.localsLt) (fun y hm => Nat.lt_irrefl _ (I.fr.cellLt hm)), Le.set hr, fun a o' e => ⟨o', Heap.get?_push_of_some _ e⟩, fun a o' ha e => ?_, fun a o' _ _ e => Heap.get?_push_of_some _ e, rfl, rfl⟩
  rw [Wd.set_other (Nat.ne_of_lt (Heap.lt_size ha))]; exact e
theorem Ok.newList {c : Cx} {p : Pl} {W0 : Wd} {vs : List Value} {xs : List AV} (h : VRs W0 vs xs) : Ok c p W0 (newList vs) VR (fun st => if xs.length ≤ 100000 then some (.lst xs, st) else .none) := by
  intro W st s hle I b st' e Q E hQ
  split at e
  · rename_i hsz
    cases e
    have hl := h.length
    refine wpAny_newObj_type ?_ (by show vs.toArray.size ≤ sizeLine; rw [List.size_toArray, sizeLine_eq]; omega)
    obtain ⟨I', x⟩ := I.pushFrz (listOf vs.toArray 0) s.toks
    exact hQ _ _ _ x I' (.lst (n := 0) Wd.set_self ((h.mono hle).mono x.le))
  · cases e
theorem Ok.newTuple {c : Cx} {p : Pl} {W0 : Wd} {vs : List Value} {xs : List AV} (h : VRs W0 vs xs) : Ok c p W0 (newTuple vs) VR (fun st => if xs.length ≤ 100000 then some (.tup xs, st) else .none) := by
  intro W st s hle I b st' e Q E hQ
  split at e
  · rename_i hsz
    cases e
    have hl := h.length
    refine wpAny_newObj_type ?_ (by show vs.toArray.size ≤ sizeLine; rw [List.size_toArray, sizeLine_eq]; omega)
    obtain ⟨I', x⟩ := I.pushFrz (tupOf vs.toArray 0) s.toks
    exact hQ _ _ _ x I' (.tup (n := 0) Wd.set_self rfl rfl ((h.mono hle).mono x.le))
  · cases e
end Mine

namespace Mine

abbrev Cm (α : Type) := AS → Option (α × AS)
structure Gd (c : Cx) : Prop where
  inK : c.K.In c.h0
  g : c.h0.Ns mainGlobals c.mg
  b : c.h0.Ns builtinsNs c.mb
  nolimit : c.h0.NoLimit
noncomputable def Cx.Glob (c : Cx) (x : Str) (v : Value) : Prop := c.mg x = some v ∨ (c.mg x = .none ∧ c.mb x = some v)
section
variable {c : Cx} {n : Nat} {sx : Sx}

noncomputable def var (i : Nat) : Cm AV := fun st =>
  match st.loc[i]? with
  | some .unb => .none
  | some v => some (v, st)
  | .none => .none
theorem var_some {i : Nat} {st st' : AS} {v : AV} (h : var i st = some (v, st')) : st.loc[i]? = some v ∧ v ≠ .unb ∧ st' = st := by
  unfold var at h
  split at h
  · cases h
  · rename_i w q hw; cases h; exact ⟨hw, q, rfl⟩
  · cases h
theorem var_get {i : Nat} {st : AS} {v : AV} (h : st.loc[i]? = some v) (hv : v ≠ .unb) : var i st = some (v, st) := by
  unfold var
  split
  · rename_i q; rw [h] at q; cases q; exact absurd rfl hv
  · rename_i q; rw [h] at q; cases q; rfl
  · rename_i q; rw [h] at q; cases q
theorem ImplE.name {x : Str} {pos : Pos} {i : Nat} (hi : sx.vars[i]? = some x) (hd : (x == ("__debug__" : Str)) = false) : ImplE c n sx (.Name x pos) (var i) := by
  intro p hp _ W0 W st s hle I v st' e Q E hQ
  subst hp
  obtain ⟨e1, e2, rfl⟩ := var_some e
  have hk : p.env.scope.kind = .function := by rw [I.fr.scope]; exact I.fr.kind
  refine wpAny_Name ?_ hd
  rcases I.fr.kinds x (List.mem_of_getElem? hi) with hl | hl
  · obtain ⟨ml, hns, hml⟩ := I.fr.ns
    obtain ⟨val, hv, r⟩ := hml i x v hi e1 e2 hl
    exact wpAny_loadName_local hk hl hns hv (hQ W val s (Ext.refl ..) I r)
  · obtain ⟨val, a, hc, hcell, r⟩ := I.fr.cl i x v hi e1 e2 hl
    exact wpAny_loadName_cell hk hl hc hcell (hQ W val s (Ext.refl ..) I r)
theorem load_glob (G : Gd c) {p : Pl} {W : Wd} {st : AS} {s : Shared} (I : Inv c p W st s) {x : Str} {pos : Pos} {v : Value} (hx : p.sx.sc.names.lookup x = some .globalImplicit) (hg : c.Glob x v) (hd : (x == ("__debug__" : Str)) = false)
    {Q : Value → Shared → Prop} {E : Value → Shared → Prop} (h : Q v s) : wpAny (model c.prog c.w) p.A (eval (.Name x pos) p.env) Q E s := by
  have hk : p.env.scope.kind = .function := by rw [I.fr.scope]; exact I.fr.kind
  have hx' : p.env.kindOf x = some .globalImplicit := by unfold Env.kindOf; rw [I.fr.scope]; exact hx
  have g1 : s.heap.Ns p.env.globals c.mg := by rw [I.fr.globals]; exact G.g.keeps I.hr.keep
  have g2 : s.heap.Ns p.env.builtins c.mb := by rw [I.fr.builtins]; exact G.b.keeps I.hr.keep
  refine Calls.Name_function_global hk hx' ?_ hd
  rcases hg with hg | ⟨hg, hb⟩
  · exact Calls.loadGlobal_global g1 hg h
  · exact Calls.loadGlobal_builtin g1 hg g2 hb h
theorem ImplE.cnone {k : Nat} {pos : Pos} : ImplE c n sx (.Constant .none k pos) (pu .none) := by
  intro p _ _ W0 W st s hle I b st' e Q E hQ; cases e
  exact wpAny_Constant_none (hQ W _ s (Ext.refl ..) I .none)
theorem ImplE.cbool {b : Bool} {k : Nat} {pos : Pos} : ImplE c n sx (.Constant (.bool b) k pos) (pu (.bool b)) := by
  intro p _ _ W0 W st s hle I b st' e Q E hQ; cases e
  exact wpAny_Constant_bool (hQ W _ s (Ext.refl ..) I (.bool _))
theorem ImplE.cint {i : Int} {k : Nat} {pos : Pos} : ImplE c n sx (.Constant (.int i) k pos) (pu (.int i)) := by
  intro p _ _ W0 W st s hle I b st' e Q E hQ; cases e
  exact wpAny_Constant_int (hQ W _ _ ((Ext.refl ..).toks _) (I.toks _) (.int _ _))
theorem ImplE.cstr {x : Str} {k : Nat} {pos : Pos} : ImplE c n sx (.Constant (.str x) k pos) (pu (.str x)) := by
  intro p _ _ W0 W st s hle I b st' e Q E hQ; cases e
  exact wpAny_Constant_str (hQ W _ _ ((Ext.refl ..).toks _) (I.toks _) (.str _ _))
noncomputable def ImplEs (c : Cx) (n : Nat) (sx : Sx) (es : List Expr) (f : Cm (List AV)) : Prop := ∀ p : Pl, p.sx = sx → Room n p.A → ∀ W0 pos, Ok c p W0 (spliced (backTo pos (starEach es p.env))) VRs f
noncomputable def plainX : Expr → Bool
  | .Starred .. => false
  | _ => true
theorem star_plain {e : Expr} {rest : List Expr} {env : Env} (h : plainX e = true) : starEach (e :: rest) env = (false, eval e env) :: starEach rest env := by
  cases e <;> first | rfl | cases h
theorem ImplEs.nil : ImplEs c n sx [] (pu []) := by
  intro p _ _ W0 pos W st s hle I b st' e Q E hQ; cases e
  exact wpAny_items_nil (hQ W _ s (Ext.refl ..) I .nil)
noncomputable def consM (f : Cm AV) (g : Cm (List AV)) : Cm (List AV) := bd f fun x => bd g fun xs => pu (x :: xs)
theorem ImplEs.cons {e : Expr} {es : List Expr} {f : Cm AV} {g : Cm (List AV)} (h1 : ImplE c n sx e f) (h2 : ImplEs c n sx es g) (hp : plainX e = true := by rfl) : ImplEs c n sx (e :: es) (consM f g) := by
  intro p hsx hr W0 pos W st s hle I b st' e Q E hQ
  obtain ⟨x, st1, e1, e2⟩ := bd_some e
  obtain ⟨xs, st2, e3, e4⟩ := bd_some e2
  cases e4
  refine wpAny_items_cons (h1 p hsx hr W W st s (Le.refl _) I x st1 e1 _ E fun W1 v s1 x1 I1 r1 => ?_) (star_plain hp)
  refine h2 p hsx hr W1 pos W1 st1 s1 (Le.refl _) I1 xs st' e3 _ E fun W2 vs s2 x2 I2 r2 => ?_
  exact hQ W2 _ s2 (x1.trans x2) I2 (.cons (r1.mono x2.le) r2)
noncomputable def lstM (xs : List AV) : Cm AV := fun st => if xs.length ≤ 100000 then some (.lst xs, st) else .none
noncomputable def tupM (xs : List AV) : Cm AV := fun st => if xs.length ≤ 100000 then some (.tup xs, st) else .none
theorem ImplE.list {es : List Expr} {pos : Pos} {f : Cm (List AV)} (h : ImplEs c n sx es f) : ImplE c n sx (.List es pos) (bd f lstM) := by
  intro p hsx hr W0 W st s hle I b st' e Q E hQ
  obtain ⟨xs, st1, e1, e2⟩ := bd_some e
  refine List_ (h p hsx hr W pos W st s (Le.refl _) I xs st1 e1 _ E fun W1 vs s1 x1 I1 r1 => ?_)
  exact Ok.newList r1 W1 st1 s1 (Le.refl _) I1 b st' e2 Q E fun W2 v s2 x2 I2 r2 => hQ W2 v s2 (x1.trans x2) I2 r2
theorem ImplE.tuple {es : List Expr} {k : Nat} {pos : Pos} {f : Cm (List AV)} (h : ImplEs c n sx es f) : ImplE c n sx (.Tuple es k pos) (bd f tupM) := by
  intro p hsx hr W0 W st s hle I b st' e Q E hQ
  obtain ⟨xs, st1, e1, e2⟩ := bd_some e
  refine Tuple_ (h p hsx hr W pos W st s (Le.refl _) I xs st1 e1 _ E fun W1 vs s1 x1 I1 r1 => ?_)
  exact Ok.newTuple r1 W1 st1 s1 (Le.refl _) I1 b st' e2 Q E fun W2 v s2 x2 I2 r2 => hQ W2 v s2 (x1.trans x2) I2 r2
noncomputable def OkBin (c : Cx) (n : Nat) (op : Operator) (g : AV → AV → Cm AV) : Prop := ∀ p : Pl, Room n p.A → ∀ W0 a b x y, VR W0 a x → VR W0 b y → Ok c p W0 (binaryOp op a b) VR (g x y)
noncomputable def OkCmp (c : Cx) (n : Nat) (op : CmpOp) (g : AV → AV → Cm Bool) : Prop := ∀ p : Pl, Room n p.A → ∀ W0 a b x y, VR W0 a x → VR W0 b y → Ok c p W0 (compareOp op a b) (fun _ v b => v = .bool b) (g x y)
noncomputable def bin2 (f g : Cm AV) (h : AV → AV → Cm AV) : Cm AV := bd f fun x => bd g fun y => h x y
noncomputable def cmp2 (f g : Cm AV) (h : AV → AV → Cm Bool) : Cm Bool := bd f fun x => bd g fun y => h x y
theorem ImplE.bin {l r : Expr} {op : Operator} {pos : Pos} {f g : Cm AV} {h : AV → AV → Cm AV} (h1 : ImplE c n sx l f) (h2 : ImplE c n sx r g) (h3 : OkBin c n op h) : ImplE c n sx (.BinOp l op r pos) (bin2 f g h) := by
  intro p hsx hr W0 W st s hle I b st' e Q E hQ
  obtain ⟨x, st1, e1, e2⟩ := bd_some e
  obtain ⟨y, st2, e3, e4⟩ := bd_some e2
  refine wpAny_BinOp (h1 p hsx hr W W st s (Le.refl _) I x st1 e1 _ E fun W1 a s1 x1 I1 r1 => ?_)
  refine h2 p hsx hr W1 W1 st1 s1 (Le.refl _) I1 y st2 e3 _ E fun W2 vb s2 x2 I2 r2 => ?_
  exact h3 p hr W2 a vb x y (r1.mono x2.le) r2 W2 st2 s2 (Le.refl _) I2 b st' e4 Q E fun W3 v s3 x3 I3 r3 => hQ W3 v s3 ((x1.trans x2).trans x3) I3 r3
noncomputable def boolV (f : Cm Bool) : Cm AV := bd f fun b => pu (.bool b)
theorem ImplE.cmp {l r : Expr} {op : CmpOp} {pos : Pos} {f g : Cm AV} {h : AV → AV → Cm Bool} (h1 : ImplE c n sx l f) (h2 : ImplE c n sx r g) (h3 : OkCmp c n op h) (hm : behindInMarks op r = false := by rfl) :
    ImplE c n sx (.Compare l [op] [r] pos) (boolV (cmp2 f g h)) := by
  intro p hsx hr W0 W st s hle I b st' e Q E hQ
  obtain ⟨bb, st0, e0, e00⟩ := bd_some e
  cases e00
  obtain ⟨x, st1, e1, e2⟩ := bd_some e0
  obtain ⟨y, st2, e3, e4⟩ := bd_some e2
  refine wpAny_Compare1 (h1 p hsx hr W W st s (Le.refl _) I x st1 e1 _ E fun W1 a s1 x1 I1 r1 => ?_) hm
  refine h2 p hsx hr W1 W1 st1 s1 (Le.refl _) I1 y st2 e3 _ E fun W2 vb s2 x2 I2 r2 => ?_
  exact h3 p hr W2 a vb x y (r1.mono x2.le) r2 W2 st2 s2 (Le.refl _) I2 bb st' e4 Q E fun W3 v s3 x3 I3 r3 => hQ W3 v s3 ((x1.trans x2).trans x3) I3 (r3 ▸ .bool bb)
noncomputable def ImplT (c : Cx) (n : Nat) (sx : Sx) (e : Expr) (f : Cm Bool) : Prop := ∀ p : Pl, p.sx = sx → Room n p.A → ∀ W0, Ok c p W0 (isTrue e p.env (eval e p.env)) (fun _ a b => a = b) f
theorem ImplT.cmp {l r : Expr} {op : CmpOp} {pos : Pos} {f g : Cm AV} {h : AV → AV → Cm Bool} (h1 : ImplE c n sx l f) (h2 : ImplE c n sx r g) (h3 : OkCmp c n op h) (hm : behindInMarks op r = false := by rfl) :
    ImplT c n sx (.Compare l [op] [r] pos) (cmp2 f g h) := by
  intro p hsx hr W0 W st s hle I b st' e Q E hQ
  obtain ⟨x, st1, e1, e2⟩ := bd_some e
  obtain ⟨y, st2, e3, e4⟩ := bd_some e2
  refine wpAny_isTrue_Compare1 (h1 p hsx hr W W st s (Le.refl _) I x st1 e1 _ E fun W1 a s1 x1 I1 r1 => ?_) hm
  refine h2 p hsx hr W1 W1 st1 s1 (Le.refl _) I1 y st2 e3 _ E fun W2 vb s2 x2 I2 r2 => ?_
  refine h3 p hr W2 a vb x y (r1.mono x2.le) r2 W2 st2 s2 (Le.refl _) I2 b st' e4 _ E fun W3 v s3 x3 I3 r3 => ?_
  subst r3
  exact wpAny_truthy_bool (hQ W3 b s3 ((x1.trans x2).trans x3) I3 rfl)
noncomputable def truthM : AV → Cm Bool
  | .bool b => pu b
  | .none => pu false
  | _ => no
theorem truth_ok {p : Pl} {W0 : Wd} {v : Value} {x : AV} (h : VR W0 v x) : Ok c p W0 (truthy v) (fun _ a b => a = b) (truthM x) := by
  intro W st s hle I b st' e Q E hQ
  cases h with
  | bool b' => cases e; exact wpAny_truthy_bool (hQ W _ s (Ext.refl ..) I rfl)
  | none => cases e; exact truthy_none (hQ W _ s (Ext.refl ..) I rfl)
  | _ => cases e
noncomputable def plainT : Expr → Bool
  | .UnaryOp .. | .BoolOp .. | .IfExp .. | .Compare .. => false
  | _ => true
theorem isTrue_is {e : Expr} {env : Env} {t : Sem Value} (h : plainT e = true) : isTrue e env t = (do let v ← t; standAt e.pos; holding [v] (truthy v)) := by
  cases e <;> first | rfl | cases h
theorem ImplT.value {e : Expr} {f : Cm AV} (h : ImplE c n sx e f) (hp : plainT e = true := by rfl) : ImplT c n sx e (bd f truthM) := by
  intro p hsx hr W0 W st s hle I b st' e Q E hQ
  obtain ⟨x, st1, e1, e2⟩ := bd_some e
  refine wpAny_isTrue_value (h p hsx hr W W st s (Le.refl _) I x st1 e1 _ E fun W1 a s1 x1 I1 r1 => ?_) (isTrue_is hp)
  exact truth_ok r1 W1 st1 s1 (Le.refl _) I1 b st' e2 Q E fun W2 v s2 x2 I2 r2 => hQ W2 v s2 (x1.trans x2) I2 r2
noncomputable def notM (f : Cm Bool) : Cm Bool := bd f fun b => pu (!b)
theorem ImplT.not {e : Expr} {pos : Pos} {f : Cm Bool} (h : ImplT c n sx e f) : ImplT c n sx (.UnaryOp .Not e pos) (notM f) := by
  intro p hsx hr W0 W st s hle I b st' e Q E hQ
  obtain ⟨x, st1, e1, e2⟩ := bd_some e
  cases e2
  refine wpAny_isTrue_Not (h p hsx hr W W st s (Le.refl _) I x st' e1 _ E fun W1 a s1 x1 I1 r1 => ?_)
  exact hQ W1 _ s1 x1 I1 (by rw [r1])
noncomputable def ImplTs (c : Cx) (n : Nat) (sx : Sx) (op : BoolOp) (es : List Expr) (f : Cm Bool) : Prop := ∀ p : Pl, p.sx = sx → Room n p.A → ∀ W0, Ok c p W0 (allTrue op es p.env) (fun _ a b => a = b) f
noncomputable def orM (f g : Cm Bool) : Cm Bool := bd f fun b => if b then pu true else g
theorem ImplTs.orNil : ImplTs c n sx .Or [] (pu false) := by
  intro p _ _ W0 W st s hle I b st' e Q E hQ; cases e
  exact wpAny_allTrue_Or_nil (hQ W _ s (Ext.refl ..) I rfl)
theorem ImplTs.or {e : Expr} {es : List Expr} {f g : Cm Bool} (h1 : ImplT c n sx e f) (h2 : ImplTs c n sx .Or es g) : ImplTs c n sx .Or (e :: es) (orM f g) := by
  intro p hsx hr W0 W st s hle I b st' e Q E hQ
  obtain ⟨x, st1, e1, e2⟩ := bd_some e
  refine wpAny_allTrue_Or_cons (h1 p hsx hr W W st s (Le.refl _) I x st1 e1 _ E fun W1 a s1 x1 I1 r1 => ?_)
  subst r1
  cases a with
  | false => exact h2 p hsx hr W1 W1 st1 s1 (Le.refl _) I1 b st' e2 Q E fun W2 v s2 x2 I2 r2 => hQ W2 v s2 (x1.trans x2) I2 r2
  | true => cases e2; exact hQ W1 _ s1 x1 I1 rfl
theorem ImplT.bool {op : BoolOp} {es : List Expr} {pos : Pos} {f : Cm Bool} (h : ImplTs c n sx op es f) : ImplT c n sx (.BoolOp op es pos) f :=
  fun p hsx hr W0 => (h p hsx hr W0).of fun _ _ _ k => wpAny_isTrue_BoolOp k
noncomputable def iteM {α : Type} (t : Cm Bool) (f g : Cm α) : Cm α := bd t fun b => if b then f else g
end
end Mine

namespace Mine

section
variable {c : Cx} {n : Nat} {sx : Sx}

noncomputable def setV (i : Nat) (v : AV) : Cm Unit := fun st => some ((), { st with loc := st.loc.set i v })
theorem HR.loc {W : Wd} {st : AS} {h : Heap} (H : HR c W st h) (l : List AV) : HR c W { st with loc := l } h :=
  ⟨H.keep, H.mutA, H.lt, H.frz, H.ni, H.nl, H.iaR, H.insA, H.lstA, H.nodup⟩
theorem nodup_get : ∀ {l : List Str}, l.Nodup → ∀ {i j : Nat} {x : Str}, l[i]? = some x → l[j]? = some x → i = j
  | [], _, i, j, x, hi, _ => by simp at hi
  | y :: r, h, i, j, x, hi, hj => by
    obtain ⟨h1, h2⟩ := List.nodup_cons.mp h
    cases i with
    | zero =>
      cases j with
      | zero => rfl
      | succ j => simp at hi hj; subst hi; exact absurd (List.mem_of_getElem? hj) h1
    | succ i =>
      cases j with
      | zero => simp at hi hj; subst hj; exact absurd (List.mem_of_getElem? hi) h1
      | succ j => simp at hi hj; exact congrArg _ (nodup_get h2 hi hj)
theorem store_ok {p : Pl} {W0 : Wd} {i : Nat} {x : Str} {val : Value} {v : AV} (hi : p.sx.vars[i]? = some x) (hw : x ∈ p.sx.wr) (hv : VR W0 val v) : Ok c p W0 (storeName p.env x val) (fun _ _ _ => True) (setV i v) := by
  intro W st s hle I b st' e Q E hQ
  cases e
  have F := I.fr
  have hk : p.env.scope.kind = .function := by rw [F.scope]; exact F.kind
  have hv' := hv.mono hle
  obtain ⟨ml, hns, hml⟩ := F.ns
  rcases F.kinds x (List.mem_of_getElem? hi) with hl | hl
  · refine wpAny_storeName_local hl hns (fun h' hns' hsb => ?_) (by rw [hk]; rfl)
    have keepR : ∀ b o, b ≠ p.env.locals → s.heap.get? b = some o → h'.get? b = some o := fun b o hb e => hsb.extBut b o hb e
    refine hQ W () _ ⟨Le.refl W, fun a o e => ?_, fun _ _ _ e => e, fun a o _ hno e => keepR a o (fun q => hno (.inl q)) e, rfl, rfl⟩ ⟨?_, ?_⟩ trivial
    · rcases Classical.em (a = p.env.locals) with q | q
      · subst q; obtain ⟨o', _, _, ho', _⟩ := hns'; exact ⟨o', ho'⟩
      · exact ⟨o, keepR a o q e⟩
    · refine (I.hr.loc _).grow fun b o hb e => keepR b o (fun q => ?_) e
      subst q
      rcases hb with ⟨o', hb⟩ | hb
      · rw [F.lo] at hb; cases hb
      · exact hb F.roleL
    · refine ⟨⟨_, hns', fun j y u h1 h2 h3 h4 => ?_⟩, fun j y u h1 h2 h3 h4 => ?_, fun y a hm => ?_, F.hasCell, F.kinds, F.apart, F.wcIn, F.roleL, F.roleC, F.lo, F.scope, F.kind, F.globals, F.builtins, F.nodup⟩
      · simp only [List.getElem?_set] at h2
        by_cases hij : i = j
        · subst hij
          rw [hi] at h1; cases h1
          rw [if_pos rfl] at h2
          split at h2
          · cases h2; exact ⟨val, if_pos rfl, hv'⟩
          · cases h2
        · rw [if_neg hij] at h2
          obtain ⟨vl, e1, r⟩ := hml j y u h1 h2 h3 h4
          have : y ≠ x := fun q => hij (nodup_get F.nodup hi (q ▸ h1))
          exact ⟨vl, by simp only [this, if_false]; exact e1, r⟩
      · simp only [List.getElem?_set] at h2
        have hij : i ≠ j := fun q => by subst q; rw [hi] at h1; cases h1; rw [hl] at h4; cases h4
        rw [if_neg hij] at h2
        obtain ⟨vl, a, e1, q, r⟩ := F.cl j y u h1 h2 h3 h4
        exact ⟨vl, a, e1, q.sameBut hsb (F.roleC y a e1).2.1, r⟩
      · obtain ⟨u, q⟩ := F.cells y a hm
        exact ⟨u, q.sameBut hsb (F.roleC y a hm).2.1⟩
  · obtain ⟨a, hc, hwc⟩ := F.hasCell x (List.mem_of_getElem? hi) hl
    have hwc := hwc hw
    obtain ⟨v0, hcell⟩ := F.cells x a hc
    have hra := F.roleC x a hc
    refine wpAny_storeName_cell hk hl hc hcell fun h' hcell' hsb => ?_
    have keepR : ∀ b o, b ≠ a → s.heap.get? b = some o → h'.get? b = some o := fun b o hb e => hsb.extBut b o hb e
    refine hQ W () _ ⟨Le.refl W, fun b o e => ?_, fun _ _ _ e => e, fun b o _ hno e => keepR b o (fun q => hno (.inr (q ▸ hwc))) e, rfl, rfl⟩ ⟨?_, ?_⟩ trivial
    · rcases Classical.em (b = a) with q | q
      · subst q; obtain ⟨o', ho', _⟩ := hcell'; exact ⟨o', ho'⟩
      · exact ⟨o, keepR b o q e⟩
    · refine (I.hr.loc _).grow fun b o hb e => keepR b o (fun q => ?_) e
      subst q
      rcases hb with ⟨o', hb⟩ | hb
      · rw [hra.2.2] at hb; cases hb
      · exact hb hra.1
    · refine ⟨⟨ml, hns.sameBut hsb (Ne.symm hra.2.1), fun j y u h1 h2 h3 h4 => ?_⟩, fun j y u h1 h2 h3 h4 => ?_, fun y b hm => ?_, F.hasCell, F.kinds, F.apart, F.wcIn, F.roleL, F.roleC, F.lo, F.scope, F.kind, F.globals, F.builtins, F.nodup⟩
      · simp only [List.getElem?_set] at h2
        have hij : i ≠ j := fun q => by subst q; rw [hi] at h1; cases h1; rw [hl] at h4; cases h4
        rw [if_neg hij] at h2
        exact hml j y u h1 h2 h3 h4
      · simp only [List.getElem?_set] at h2
        by_cases hij : i = j
        · subst hij
          rw [hi] at h1; cases h1
          rw [if_pos rfl] at h2
          split at h2
          · cases h2; exact ⟨val, a, hc, hcell', hv'⟩
          · cases h2
        · rw [if_neg hij] at h2
          obtain ⟨vl, b, e1, q, r⟩ := F.cl j y u h1 h2 h3 h4
          have : y ≠ x := fun q => hij (nodup_get F.nodup hi (q ▸ h1))
          have hba : b ≠ a := fun q => this (name_of_addr F.apart (mem_of_lookup e1) (q ▸ mem_of_lookup hc))
          exact ⟨vl, b, e1, q.sameBut hsb hba, r⟩
      · rcases Classical.em (b = a) with q | q
        · subst q; exact ⟨_, hcell'⟩
        · obtain ⟨u, h⟩ := F.cells y b hm
          exact ⟨u, h.sameBut hsb q⟩
noncomputable def ImplA (c : Cx) (n : Nat) (sx : Sx) (t : Expr) (f : AV → Cm Unit) : Prop := ∀ p : Pl, p.sx = sx → Room n p.A → ∀ W0 val x, VR W0 val x → Ok c p W0 (assign t p.env val) (fun _ _ _ => True) (f x)
theorem ImplA.name {x : Str} {pos : Pos} {i : Nat} (hi : sx.vars[i]? = some x) (hw : sx.wr[i]? = some x) : ImplA c n sx (.Name x pos) (setV i) := by
  have hw := List.mem_of_getElem? hw
  intro p hsx hr W0 val v hv
  subst hsx
  exact (store_ok hi hw hv).of fun s Q E h => wpAny_assign_Name h
noncomputable def ImplAs (c : Cx) (n : Nat) (sx : Sx) (ts : List Expr) (f : List AV → Cm Unit) : Prop :=
  ∀ p : Pl, p.sx = sx → Room n p.A → (assignEach ts p.env).length = ts.length ∧ (assignEach ts p.env).findIdx? (·.1) = .none ∧
    ∀ W0 vals xs, VRs W0 vals xs → xs.length = ts.length → Ok c p W0 (assignInOrder ((assignEach ts p.env).map (·.2)) vals) (fun _ _ _ => True) (f xs)
noncomputable def nilA : List AV → Cm Unit := fun xs => match xs with | [] => pu () | _ => no
noncomputable def consA (f : AV → Cm Unit) (g : List AV → Cm Unit) : List AV → Cm Unit := fun xs => match xs with
  | x :: r => bd (f x) fun _ => g r
  | [] => no
theorem ImplAs.nil : ImplAs c n sx [] nilA := by
  intro p hsx hr
  refine ⟨rfl, rfl, fun W0 vals xs h hl W st s hle I b st' e Q E hQ => ?_⟩
  cases h with
  | nil => cases e; exact wpAny_pure (hQ W _ s (Ext.refl ..) I trivial)
  | cons => cases hl
theorem assign_plain {t : Expr} {ts : List Expr} {env : Env} (h : plainX t = true) : assignEach (t :: ts) env = (false, assign t env) :: assignEach ts env := by
  cases t <;> first | rfl | cases h
theorem ImplAs.cons {t : Expr} {ts : List Expr} {f : AV → Cm Unit} {g : List AV → Cm Unit} (h1 : ImplA c n sx t f) (h2 : ImplAs c n sx ts g) (hp : plainX t = true := by rfl) : ImplAs c n sx (t :: ts) (consA f g) := by
  intro p hsx hr
  obtain ⟨a1, a2, a3⟩ := h2 p hsx hr
  refine ⟨by rw [assign_plain hp, List.length_cons, List.length_cons, a1], by rw [assign_plain hp, List.findIdx?_cons]; simp [a2], fun W0 vals xs h hl W st s hle I b st' e Q E hQ => ?_⟩
  cases h with
  | nil => cases hl
  | cons hv hvs =>
    obtain ⟨u, st1, e1, e2⟩ := bd_some e
    rw [assign_plain hp]
    show wpAny _ _ (do holding _ (assign t p.env _); assignInOrder ((assignEach ts p.env).map (·.2)) _) Q E s
    refine wpAny_bind (wpAny_holding (h1 p hsx hr W _ _ (hv.mono hle) W st s (Le.refl _) I u st1 e1 _ E fun W1 _ s1 x1 I1 _ => ?_))
    exact a3 W1 _ _ ((hvs.mono hle).mono x1.le) (by simpa using hl) W1 st1 s1 (Le.refl _) I1 b st' e2 Q E fun W2 v s2 x2 I2 r2 => hQ W2 v s2 (x1.trans x2) I2 r2
noncomputable def unpackM (k : Nat) (g : List AV → Cm Unit) : AV → Cm Unit := fun x => match x with
  | .tup xs => if xs.length = k then g xs else no
  | _ => no
theorem HR.isTuple {W : Wd} {st : AS} {h : Heap} (H : HR c W st h) {a : Addr} {o : Obj} {vs : List Value} {k : Nat} (e : W.role a = .frz o) (e1 : o.cls = .type "tuple") (e2 : o.data = .seq vs.toArray k) : h.IsTuple a vs.toArray := ⟨o, H.frz a _ e, e1, _, e2⟩
theorem HR.isList {W : Wd} {st : AS} {h : Heap} (H : HR c W st h) {a : Addr} {vs : List Value} {k : Nat} (e : W.role a = .frz (listOf vs.toArray k)) : h.IsList a vs.toArray := ⟨_, H.frz a _ e, rfl, _, rfl⟩
theorem Inv.unext {p : Pl} {W : Wd} {st : AS} {s : Shared} (I : Inv c p W st s) {h' : Heap} (x : Heap.ExtBut s.heap.objs.size s.heap h') :
    Inv c p W st { s with heap := h' } ∧ Ext p.Own W s W { s with heap := h' } := by
  have k : ∀ b o, s.heap.get? b = some o → h'.get? b = some o := fun b o e => x b o (Nat.ne_of_lt (Heap.lt_size e)) e
  exact ⟨I.keeps (s' := { s with heap := h' }) k, Ext.keeps (s' := { s with heap := h' }) _ _ k rfl rfl⟩
theorem ImplA.tuple {ts : List Expr} {k : Nat} {pos : Pos} {g : List AV → Cm Unit} (h : ImplAs c n sx ts g) : ImplA c n sx (.Tuple ts k pos) (unpackM ts.length g) := by
  intro p hsx hr W0 val x hv W st s hle I b st' e Q E hQ
  obtain ⟨a1, a2, a3⟩ := h p hsx hr
  cases hv.mono hle with
  | tup hrole c1 c2 hvs =>
    simp only [unpackM] at e
    split at e
    · rename_i hl
      refine wpAny_assign_Tuple hr.1 (I.hr.isTuple hrole c1 c2) (by rw [a1, List.size_toArray, hvs.length, hl]) a2 fun h' hx => ?_
      obtain ⟨I', x'⟩ := I.unext hx
      exact a3 W _ _ hvs hl W st _ (Le.refl _) I' b st' e Q E fun W2 v s2 x2 I2 r2 => hQ W2 v s2 (x'.trans x2) I2 r2
    · cases e
  | _ => cases e
inductive AF where
  | next
  | ret (v : AV)
inductive FlowR (W : Wd) : Flow → AF → Prop
  | next : FlowR W .next .next
  | ret {v : Value} {x : AV} : VR W v x → FlowR W (.ret v) (.ret x)
noncomputable def ImplS1 (c : Cx) (n : Nat) (sx : Sx) (t : Stmt) (f : Cm AF) : Prop := ∀ p : Pl, p.sx = sx → Room n p.A → ∀ W0, Ok c p W0 (exec t p.env) FlowR f
noncomputable def ImplS (c : Cx) (n : Nat) (sx : Sx) (ts : List Stmt) (f : Cm AF) : Prop := ∀ p : Pl, p.sx = sx → Room n p.A → ∀ W0, Ok c p W0 (execs ts p.env) FlowR f
noncomputable def thenM (f g : Cm AF) : Cm AF := bd f fun r => match r with
  | .next => g
  | .ret v => pu (.ret v)
theorem ImplS.nil : ImplS c n sx [] (pu .next) := by
  intro p _ _ W0 W st s hle I b st' e Q E hQ; cases e
  exact wpAny_execs_nil (hQ W _ s (Ext.refl ..) I .next)
theorem ImplS.cons {t : Stmt} {ts : List Stmt} {f g : Cm AF} (h1 : ImplS1 c n sx t f) (h2 : ImplS c n sx ts g) : ImplS c n sx (t :: ts) (thenM f g) := by
  intro p hsx hr W0 W st s hle I b st' e Q E hQ
  obtain ⟨r, st1, e1, e2⟩ := bd_some e
  refine wpAny_execs_cons (h1 p hsx hr W W st s (Le.refl _) I r st1 e1 _ E fun W1 fl s1 x1 I1 r1 => ?_)
  cases r1 with
  | next => exact h2 p hsx hr W1 W1 st1 s1 (Le.refl _) I1 b st' e2 Q E fun W2 v s2 x2 I2 r2 => hQ W2 v s2 (x1.trans x2) I2 r2
  | ret hv => cases e2; exact hQ W1 _ s1 x1 I1 (.ret hv)
noncomputable def envS (sc : Scope) : Env := { scope := sc, locals := 0, globals := 0, cells := [] }
noncomputable def asgM (f : Cm AV) (g : AV → Cm Unit) : Cm AF := bd f fun x => bd (g x) fun _ => pu .next
theorem swaps1_static {t : Option Expr} {value : Expr} {line : Nat} {env : Env} {sc : Scope} (h : env.scope = sc) : swapsWith value t line env = swapsWith value t line (envS sc) := by
  obtain ⟨scope, locals, globals, cells, qual, func, code, frame, builtins⟩ := env
  dsimp only at h; subst h; rfl
theorem swaps_static {t : List Expr} {value : Expr} {line : Nat} {env : Env} {sc : Scope} (h : env.scope = sc) : swapsWithSole t value line env = swapsWithSole t value line (envS sc) := by
  cases t with
  | nil => rfl
  | cons a r =>
    cases r with
    | nil => exact swaps1_static h
    | cons => rfl
theorem stores_static {t : List Expr} {value : Expr} {env : Env} {sc : Scope} (h : env.scope = sc) : swappedStores t value env = swappedStores t value (envS sc) := by
  obtain ⟨scope, locals, globals, cells, qual, func, code, frame, builtins⟩ := env
  dsimp only at h; subst h; rfl
theorem assignAll_one {t : Expr} {env : Env} {v : Value} (h : plainX t = true) : assignAll v ((assignEach [t] env).map (·.2)) = assign t env v := by
  rw [assign_plain h]; rfl
theorem ImplS1.assign {t value : Expr} {pos : Pos} {f : Cm AV} {g : AV → Cm Unit} (h1 : ImplE c n sx value f) (h2 : ImplA c n sx t g)
    (hs : swapsWithSole [t] value pos.line (envS sx.sc) = pure false := by rfl) (hw : swappedStores [t] value (envS sx.sc) = pure .none := by rfl) (hp : plainX t = true := by rfl) :
    ImplS1 c n sx (.Assign [t] value pos) (asgM f g) := by
  intro p hsx hr W0 W st s hle I b st' e Q E hQ
  obtain ⟨x, st1, e1, e2⟩ := bd_some e
  obtain ⟨u, st2, e3, e4⟩ := bd_some e2
  cases e4
  have hsc : p.env.scope = sx.sc := by rw [I.fr.scope, hsx]
  refine wpAny_Assign_stores (h1 p hsx hr W W st s (Le.refl _) I x st1 e1 _ E fun W1 v s1 x1 I1 r1 => ?_) (by rw [swaps_static hsc]; exact hs) (by rw [stores_static hsc]; exact hw)
  rw [assignAll_one hp]
  exact h2 p hsx hr W1 v x r1 W1 st1 s1 (Le.refl _) I1 u st' e3 _ E fun W2 _ s2 x2 I2 _ => hQ W2 _ s2 (x1.trans x2) I2 .next
noncomputable def ImplN (c : Cx) (sx : Sx) (xs : List Str) (f : List AV → Cm Unit) : Prop :=
  ∀ p : Pl, p.sx = sx → ∀ W0 vals ys, VRs W0 vals ys → ys.length = xs.length → Ok c p W0 (assignInOrder (xs.map fun x => bindName p.env x) vals) (fun _ _ _ => True) (f ys)
theorem ImplN.nil : ImplN c sx [] nilA := by
  intro p hsx W0 vals ys h hl W st s hle I b st' e Q E hQ
  cases h with
  | nil => cases e; exact wpAny_pure (hQ W _ s (Ext.refl ..) I trivial)
  | cons => cases hl
theorem ImplN.cons {x : Str} {xs : List Str} {i : Nat} {g : List AV → Cm Unit} (hi : sx.vars[i]? = some x) (hw : sx.wr[i]? = some x) (h2 : ImplN c sx xs g) : ImplN c sx (x :: xs) (consA (setV i) g) := by
  have hw := List.mem_of_getElem? hw
  intro p hsx W0 vals ys h hl W st s hle I b st' e Q E hQ
  cases h with
  | nil => cases hl
  | cons hv hvs =>
    obtain ⟨u, st1, e1, e2⟩ := bd_some (show bd (setV i _) (fun _ => g _) st = some (b, st') from e)
    show wpAny _ _ (do holding _ (bindName p.env x _); assignInOrder (xs.map fun x => bindName p.env x) _) Q E s
    subst hsx
    refine wpAny_bind (wpAny_holding (wpAny_bindName (store_ok hi hw (hv.mono hle) W st s (Le.refl _) I u st1 e1 _ E fun W1 _ s1 x1 I1 _ => ?_)))
    exact h2 p rfl W1 _ _ ((hvs.mono hle).mono x1.le) (by simpa using hl) W1 st1 s1 (Le.refl _) I1 b st' e2 Q E fun W2 v s2 x2 I2 r2 => hQ W2 v s2 (x1.trans x2) I2 r2
noncomputable def swapM (k : Nat) (g : List AV → Cm Unit) : AV → Cm Unit := fun x => match x with
  | .tup xs => if xs.length = k then g xs.reverse else no
  | _ => no
theorem ImplS1.swapped {ts : List Expr} {k : Nat} {tpos : Pos} {value : Expr} {pos : Pos} {names : List Str} {f : Cm AV} {g : List AV → Cm Unit} (h1 : ImplE c n sx value f)
    (hw : swappedStores [.Tuple ts k tpos] value (envS sx.sc) = pure (some names)) (h2 : ImplN c sx names.reverse g)
    (hs : swapsWithSole [.Tuple ts k tpos] value pos.line (envS sx.sc) = pure false := by rfl) :
    ImplS1 c n sx (.Assign [.Tuple ts k tpos] value pos) (asgM f (swapM names.length g)) := by
  intro p hsx hr W0 W st s hle I b st' e Q E hQ
  obtain ⟨x, st1, e1, e2⟩ := bd_some e
  obtain ⟨u, st2, e3, e4⟩ := bd_some e2
  cases e4
  have hsc : p.env.scope = sx.sc := by rw [I.fr.scope, hsx]
  refine Assign_Tuple_swapped (names := names) (h1 p hsx hr W W st s (Le.refl _) I x st1 e1 _ E fun W1 v s1 x1 I1 r1 => ?_) (by rw [swaps_static hsc]; exact hs) (by rw [stores_static hsc]; exact hw)
  cases r1 with
  | @tup a o vs k xs hrole c1 c2 hvs =>
    simp only [swapM] at e3
    split at e3
    · rename_i hl
      have hsz : names.length = vs.toArray.size := by rw [List.size_toArray, hvs.length, hl]
      rw [hsz]
      refine wpAny_unpackItems_tuple hr.1 (I1.hr.isTuple hrole c1 c2) fun h' hx => ?_
      obtain ⟨I', x'⟩ := I1.unext hx
      exact h2 p hsx W1 _ _ hvs.reverse (by simp [hl]) W1 st1 _ (Le.refl _) I' u st' e3 _ E fun W2 _ s2 x2 I2 _ => hQ W2 _ s2 ((x1.trans x').trans x2) I2 .next
    · cases e3
  | _ => cases e3
noncomputable def dropM (f : Cm AV) : Cm AF := bd f fun _ => pu .next
theorem swapsE_static {value : Expr} {line : Nat} {env : Env} {sc : Scope} (h : env.scope = sc) : swapsWith value .none line env = swapsWith value .none line (envS sc) := by
  obtain ⟨scope, locals, globals, cells, qual, func, code, frame, builtins⟩ := env
  dsimp only at h; subst h; rfl
theorem ImplS1.expr {e : Expr} {pos : Pos} {f : Cm AV} (h : ImplE c n sx e f) (hi : interactive (envS sx.sc) = false := by rfl) (hs : swapsWith e .none pos.line (envS sx.sc) = pure false := by rfl) : ImplS1 c n sx (.Expr e pos) (dropM f) := by
  intro p hsx hr W0 W st s hle I b st' e Q E hQ
  obtain ⟨x, st1, e1, e2⟩ := bd_some e
  have hsc : p.env.scope = sx.sc := by rw [I.fr.scope, hsx]
  have hi' : interactive p.env = false := by rw [← hi]; unfold interactive; rw [hsc]; rfl
  refine wpAny_Expr_any (h p hsx hr W W st s (Le.refl _) I x st1 e1 _ E fun W1 v s1 x1 I1 r1 => ?_) hi' (by rw [swapsE_static hsc]; exact hs)
  cases e2; exact hQ W1 _ s1 x1 I1 .next
theorem ImplS1.ite {t : Expr} {a b : List Stmt} {pos : Pos} {ft : Cm Bool} {fa fb : Cm AF} (h0 : ImplT c n sx t ft) (h1 : ImplS c n sx a fa) (h2 : ImplS c n sx b fb) : ImplS1 c n sx (.If t a b pos) (iteM ft fa fb) := by
  intro p hsx hr W0 W st s hle I b st' e Q E hQ
  obtain ⟨x, st1, e1, e2⟩ := bd_some e
  refine wpAny_If (h0 p hsx hr W W st s (Le.refl _) I x st1 e1 _ E fun W1 a s1 x1 I1 r1 => ?_)
  subst r1
  cases a with
  | true => exact h1 p hsx hr W1 W1 st1 s1 (Le.refl _) I1 b st' e2 Q E fun W2 v s2 x2 I2 r2 => hQ W2 v s2 (x1.trans x2) I2 r2
  | false => exact h2 p hsx hr W1 W1 st1 s1 (Le.refl _) I1 b st' e2 Q E fun W2 v s2 x2 I2 r2 => hQ W2 v s2 (x1.trans x2) I2 r2
noncomputable def retM (f : Cm AV) : Cm AF := bd f fun x => pu (.ret x)
theorem ImplS1.ret {e : Expr} {pos : Pos} {f : Cm AV} (h : ImplE c n sx e f) : ImplS1 c n sx (.Return (some e) pos) (retM f) := by
  intro p hsx hr W0 W st s hle I b st' e Q E hQ
  obtain ⟨x, st1, e1, e2⟩ := bd_some e
  cases e2
  exact wpAny_Return_some (h p hsx hr W W st s (Le.refl _) I x st' e1 _ E fun W1 v s1 x1 I1 r1 => hQ W1 _ s1 x1 I1 (.ret r1))
end
end Mine

namespace Mine

section
variable {c : Cx} {n : Nat} {sx : Sx}

noncomputable def frz0 (seg : List (Nat × List AV)) : AV → AV
  | .lob k => (match lookL k seg with | some xs => .lst xs | .none => .lob k)
  | v => v
noncomputable def frzV (seg : List (Nat × List AV)) : AV → AV
  | .tup vs => .tup (vs.map (frz0 seg))
  | v => frz0 seg v
noncomputable def Wd.freeze (W : Wd) (seg : List (Nat × List AV)) (h : Heap) : Wd :=
  { W with role := fun a => match W.role a with
      | .lob k => if (lookL k seg).isSome then (match h.get? a with | some o => .frz o | .none => .oth) else .lob k
      | r => r }
theorem freeze_role {W : Wd} {seg : List (Nat × List AV)} {h : Heap} {a : Addr} (hn : ∀ k, W.role a ≠ .lob k) : (W.freeze seg h).role a = W.role a := by
  unfold Wd.freeze
  dsimp only
  split
  · rename_i k e; exact absurd e (hn k)
  · rfl
theorem freeze_lob {W : Wd} {seg : List (Nat × List AV)} {h : Heap} {a : Addr} {k : Nat} (e : W.role a = .lob k) : (W.freeze seg h).role a = if (lookL k seg).isSome then (match h.get? a with | some o => .frz o | .none => .oth) else .lob k := by
  unfold Wd.freeze
  dsimp only
  rw [e]
theorem Le.freeze (W : Wd) (seg : List (Nat × List AV)) (h : Heap) : Le W (W.freeze seg h) :=
  ⟨Nat.le_refl _, Nat.le_refl _, fun _ _ => rfl, fun _ _ => rfl, fun _ _ => rfl, fun a o e => by rw [freeze_role (by intro k q; rw [e] at q; cases q)]; exact e⟩
theorem lookL_mem {k : Nat} {xs : List AV} : ∀ {seg : List (Nat × List AV)}, lookL k seg = some xs → (k, xs) ∈ seg
  | [], h => by cases h
  | (j, ys) :: r, h => by
    simp only [lookL] at h
    split at h
    · rename_i q; subst q; cases h; exact List.mem_cons_self
    · exact List.mem_cons_of_mem _ (lookL_mem h)
theorem HR.freezeSeg {W : Wd} {st : AS} {h : Heap} {seg : List (Nat × List AV)} {r : LH} (H : HR c W st h) (e : st.lst = seg :: r) : HR c (W.freeze seg h) { st with lst := r } h := by
  have L := Le.freeze W seg h
  refine ⟨H.keep, fun a ha => ?_, fun a => ?_, fun a o ha => ?_, H.ni, H.nl, fun k hk => ?_, fun k i e' => ?_, fun g hg p hp => ?_, ?_⟩
  · rcases Classical.em (∃ k, W.role a = .lob k) with ⟨k, q⟩ | q
    · refine H.mutA a ?_; unfold Wd.Mut; rw [q]; trivial
    · refine H.mutA a ?_; unfold Wd.Mut at ha ⊢; rwa [freeze_role (fun k hk => q ⟨k, hk⟩)] at ha
  · rcases Classical.em (∃ k, W.role a = .lob k) with ⟨k, q⟩ | q
    · rcases H.lt a with z | z
      · rw [q] at z; cases z
      · exact .inr z
    · rw [freeze_role (fun k hk => q ⟨k, hk⟩)]; exact H.lt a
  · rcases Classical.em (∃ k, W.role a = .lob k) with ⟨k, q⟩ | q
    · rw [freeze_lob q] at ha
      split at ha
      · split at ha
        · rename_i o' ho; cases ha; exact ho
        · cases ha
      · cases ha
    · rw [freeze_role (fun k hk => q ⟨k, hk⟩)] at ha; exact H.frz a o ha
  · obtain ⟨r1, r2⟩ := H.iaR k hk
    exact ⟨(freeze_role (a := W.ia k) (by intro j q; rw [r1] at q; cases q)).trans r1, (freeze_role (a := W.da k) (by intro j q; rw [r2] at q; cases q)).trans r2⟩
  · obtain ⟨es, m, e1, e2, r3⟩ := H.insA k i e'
    exact ⟨es, m, e1, e2, r3.mono L⟩
  · obtain ⟨h1, h2, vs, m, h3, h4⟩ := H.lstA g (by rw [e]; exact List.mem_cons_of_mem _ hg) p hp
    refine ⟨h1, ?_, vs, m, h3, h4.mono L⟩
    show (W.freeze seg h).role (W.la p.1) = _
    rw [freeze_lob h2, if_neg]
    intro q
    obtain ⟨ys, hy⟩ := Option.isSome_iff_exists.mp q
    have nd := H.nodup
    rw [e, List.flatten_cons, List.map_append] at nd
    exact (List.nodup_append.mp nd).2.2 p.1 (List.mem_map.mpr ⟨_, lookL_mem hy, rfl⟩) p.1 (List.mem_map.mpr ⟨p, List.mem_flatten.mpr ⟨g, hg, hp⟩, rfl⟩) rfl
  · have nd := H.nodup
    rw [e, List.flatten_cons, List.map_append] at nd
    exact (List.nodup_append.mp nd).2.1
theorem frz0_ok {W : Wd} {st : AS} {h : Heap} {seg : List (Nat × List AV)} {r : LH} (H : HR c W st h) (e : st.lst = seg :: r) {val : Value} {v : AV} (hv : VR W val v) : VR (W.freeze seg h) val (frz0 seg v) := by
  have L := Le.freeze W seg h
  cases hv with
  | lob k hk =>
    simp only [frz0]
    split
    · rename_i xs hx
      obtain ⟨h1, h2, vs, m, h3, h4⟩ := H.lstA seg (by rw [e]; exact List.mem_cons_self) _ (lookL_mem hx)
      refine .lst (n := m) (vs := vs) ?_ (h4.mono L)
      dsimp only at h2 h3
      rw [freeze_lob h2, hx, h3]; rfl
    · exact (VR.lob k hk).mono L
  | none => exact .none
  | bool b => exact .bool b
  | int i t => exact .int i t
  | str x t => exact .str x t
  | bytes x t => exact .bytes x t
  | val _ hu => exact .val _ hu
  | ins k hk => exact (VR.ins k hk).mono L
  | lst h1 h2 => exact (VR.lst h1 h2).mono L
  | tup h1 h2 h3 h4 => exact (VR.tup h1 h2 h3 h4).mono L
  | lsb h1 h2 h3 h4 => exact (VR.lsb h1 h2 h3 h4).mono L
theorem frzV_ok {W : Wd} {st : AS} {h : Heap} {seg : List (Nat × List AV)} {r : LH} (H : HR c W st h) (e : st.lst = seg :: r) {val : Value} {v : AV} (hv : VR W val v) : VR (W.freeze seg h) val (frzV seg v) := by
  cases hv with
  | @tup _ _ vs m xs h1 h3 h4 h2 =>
    refine .tup ((Le.freeze W seg h).frz _ _ h1) h3 h4 ?_
    clear h1 h3 h4
    induction vs generalizing xs with
    | nil => cases h2; exact .nil
    | cons u us ih => cases h2 with | cons a b => exact .cons (frz0_ok H e a) (ih b)
  | none => exact frz0_ok H e .none
  | bool b => exact frz0_ok H e (.bool b)
  | int i t => exact frz0_ok H e (.int i t)
  | str x t => exact frz0_ok H e (.str x t)
  | bytes x t => exact frz0_ok H e (.bytes x t)
  | val _ hu => exact frz0_ok H e (.val _ hu)
  | ins k hk => exact frz0_ok H e (.ins k hk)
  | lob k hk => exact frz0_ok H e (.lob k hk)
  | lst h1 h2 => exact frz0_ok H e (.lst h1 h2)
  | lsb h1 h2 h3 h4 => exact frz0_ok H e (.lsb h1 h2 h3 h4)
noncomputable def ImplF (c : Cx) (n : Nat) (fa : Addr) (F : List AV → Cm AV) : Prop :=
  ∀ (A : Around) (W : Wd) (st : AS) (s : Shared), Room n A → HR c W st s.heap → ∀ vs xs, VRs W vs xs → ∀ v st', F xs st = some (v, st') →
    ∀ R : Result → Shared → Prop, (∀ W' val s', Ext (fun _ => False) W s W' s' → HR c W' st' s'.heap → VR W' val v → R (.ok (.ret val)) s') → codeAny (model c.prog c.w) A (.call (.ref fa) ⟨vs, []⟩) R s
noncomputable def endFn (loc : List AV) (v : AV) : Cm AV := fun st => match st.lst with
  | seg :: r => some (frzV seg v, { st with lst := r, loc := loc })
  | [] => .none
noncomputable def runFnG (fin : List AV → AV → Cm AV) (k m : Nat) (g : Cm AF) (xs : List AV) : Cm AV := fun st =>
  if xs.length = k then
    match g { st with loc := xs ++ List.replicate m .unb, lst := [] :: st.lst } with
    | some (.ret v, st1) => fin st.loc v st1
    | some (.next, st1) => fin st.loc .none st1
    | .none => .none
  else .none
noncomputable def FinOk (c : Cx) (fin : List AV → AV → Cm AV) : Prop := ∀ (W : Wd) (st st' : AS) (h : Heap) (loc : List AV) (u v : AV) (val : Value), fin loc u st = some (v, st') → HR c W st h → VR W val u →
  ∃ W', Le W W' ∧ HR c W' st' h ∧ VR W' val v ∧ ∀ a, W.role a = .oth → W'.role a = .oth
noncomputable def runFn (k m : Nat) (g : Cm AF) (xs : List AV) : Cm AV := runFnG endFn k m g xs
theorem ImplF.sub {fa : Addr} {F F' : List AV → Cm AV} (h : ImplF c n fa F) (k : ∀ xs st b st', F' xs st = some (b, st') → F xs st = some (b, st')) : ImplF c n fa F' :=
  fun A W st s hr H vs xs hv v st' e R hR => h A W st s hr H vs xs hv v st' (k _ _ _ _ e) R hR
theorem bindL_skip {kindOf : Str → Option NameKind} {x : Str} : ∀ {b : List (Str × Value)} {m : Str → Option Value}, (∀ y ∈ b, y.1 ≠ x) → bindL kindOf b m x = m x
  | [], _, _ => rfl
  | (y, v) :: r, m, h => by
    unfold bindL
    rw [bindL_skip (fun z hz => h z (List.mem_cons_of_mem _ hz))]
    split
    · exact if_neg (Ne.symm (h (y, v) List.mem_cons_self))
    · rfl
theorem bindL_get {kindOf : Str → Option NameKind} {x : Str} (hk : kindOf x = some .local) : ∀ {names : List Str} {vals : List Value} {m : Str → Option Value} {i : Nat} {v : Value}, names.Nodup → names[i]? = some x → vals[i]? = some v → bindL kindOf (names.zip vals) m x = some v
  | [], _, _, i, _, _, h, _ => by simp at h
  | _ :: _, [], _, i, _, _, _, h => by simp at h
  | y :: ys, u :: us, m, i, v, hn, hx, hv => by
    obtain ⟨h1, h2⟩ := List.nodup_cons.mp hn
    rw [List.zip_cons_cons]
    unfold bindL
    cases i with
    | zero =>
      simp at hx hv
      subst hx hv
      rw [bindL_skip (fun z hz q => h1 (by have := (List.of_mem_zip (show (z.1, z.2) ∈ _ from hz)).1; rwa [q] at this)), if_pos hk]
      exact if_pos rfl
    | succ i =>
      simp at hx hv
      exact bindL_get hk h2 hx hv
theorem bindC_skip {kindOf : Str → Option NameKind} {x : Str} : ∀ {b : List (Str × Value)} {m : Str → Option Value}, (∀ y ∈ b, y.1 ≠ x) → bindC kindOf b m x = m x
  | [], _, _ => rfl
  | (y, v) :: r, m, h => by
    unfold bindC
    rw [bindC_skip (fun z hz => h z (List.mem_cons_of_mem _ hz))]
    split
    · rfl
    · exact if_neg (Ne.symm (h (y, v) List.mem_cons_self))
theorem bindC_get {kindOf : Str → Option NameKind} {x : Str} (hk : kindOf x ≠ some .local) : ∀ {names : List Str} {vals : List Value} {m : Str → Option Value} {i : Nat} {v : Value}, names.Nodup → names[i]? = some x → vals[i]? = some v → bindC kindOf (names.zip vals) m x = some v
  | [], _, _, i, _, _, h, _ => by simp at h
  | _ :: _, [], _, i, _, _, _, h => by simp at h
  | y :: ys, u :: us, m, i, v, hn, hx, hv => by
    obtain ⟨h1, h2⟩ := List.nodup_cons.mp hn
    rw [List.zip_cons_cons]
    unfold bindC
    cases i with
    | zero =>
      simp at hx hv
      subst hx hv
      rw [bindC_skip (fun z hz q => h1 (by have := (List.of_mem_zip (show (z.1, z.2) ∈ _ from hz)).1; rwa [q] at this)), if_neg hk]
      exact if_pos rfl
    | succ i =>
      simp at hx hv
      exact bindC_get hk h2 hx hv
theorem mem_filterMap_lookup {cs : List (Str × Addr)} {vars : List Str} {a : Addr} (h : a ∈ vars.filterMap fun x => cs.lookup x) : ∃ x, cs.lookup x = some a := by
  obtain ⟨x, _, e⟩ := List.mem_filterMap.mp h; exact ⟨x, e⟩
structure FnIs (c : Cx) (fa : Addr) (fd : FuncData) (body : List Stmt) (names others : List Str) : Prop where
  at_ : ∃ oc od osl, c.K.lookup fa = some ⟨oc, od, .func fd, osl⟩
  body : fd.body = .stmts body
  clo : fd.closure = []
  globals : fd.globals = mainGlobals
  builtins : fd.builtins = builtinsNs
  code : codeIn c.K fd.code fd.qualname = true
  co : fd.scope.isCoroutine = false
  gen : fd.scope.isGenerator = false
  kind : fd.scope.kind = .function
  bind : ∀ vals : List Value, vals.length = names.length → bindArgs fd ⟨vals, []⟩ = pure (names.zip vals)
  kinds : ((names ++ others).all fun x => fd.scope.names.lookup x == some .local || fd.scope.names.lookup x == some .cell) = true
  nodup : (names ++ others).Nodup
theorem fn_okG (G : Gd c) {fa : Addr} {fd : FuncData} {body : List Stmt} {names others : List Str} {g : Cm AF} {fnl : List AV → AV → Cm AV} (FO : FinOk c fnl) (D : FnIs c fa fd body names others)
    (hS : ImplS c n ⟨fd.scope, names ++ others, names ++ others⟩ body g) : ImplF c (n + 1) fa (runFnG fnl names.length others.length g) := by
  intro A W st s hr H vs xs hv v st' e R hR
  obtain ⟨oc, od, osl, hK⟩ := D.at_
  have ho := H.keep _ _ (G.inK _ _ hK)
  unfold runFnG at e
  by_cases hlen : xs.length = names.length
  case neg => rw [if_neg hlen] at e; cases e
  rw [if_pos hlen] at e
  have hlv : vs.length = names.length := by rw [hv.length, hlen]
  have hkinds : ∀ x, x ∈ names ++ others → fd.scope.names.lookup x = some .local ∨ fd.scope.names.lookup x = some .cell := fun x hx => by
    have := List.all_eq_true.mp D.kinds x hx
    simpa using this
  have hcell : ∀ x, x ∈ names ++ others → fd.scope.names.lookup x = some .cell → ∀ m, ((cellsFrom m fd.scope.names []).lookup x).isSome = true := fun x _ hx m => cellsFrom_some _ _ _ (.inl hx)
  refine codeAny_call_cells hr.depth ho rfl (G.nolimit.keeps H.keep) (codeRec_of (K := c.K) (fun a o q => H.keep _ _ (G.inK a o q)) D.code) D.body (D.bind vs hlv) D.clo ?_ (fun s1 x1 => ?_) D.co D.gen D.kind
  · intro x hx
    have hm := (List.of_mem_zip (show (x.1, x.2) ∈ names.zip vs from hx)).1
    rcases hkinds x.1 (List.mem_append_left _ hm) with q | q
    · exact .inl q
    · exact .inr ⟨q, hcell _ (List.mem_append_left _ hm) q _⟩
  · -- the new frame
    let env := callEnvC fd s.heap.objs.size fa
    let p : Pl := ⟨A.deeper env, ⟨fd.scope, names ++ others, names ++ others⟩, env, (names ++ others).filterMap fun x => env.cells.lookup x⟩
    have hL : env.locals = s.heap.objs.size := rfl
    have hnL : s.heap.get? s.heap.objs.size = .none := get_none_of_ge (Nat.le_refl _)
    have hnC : ∀ y a, env.cells.lookup y = some a → s.heap.get? a = .none := fun y a q => get_none_of_ge (Nat.le_of_lt (x1.above y a (mem_of_lookup q)))
    obtain ⟨h1, tk1, rfl⟩ := x1.toInCall.same
    have k1 := x1.toInCall.keep
    have I1 : Inv c p W { st with loc := xs ++ List.replicate others.length .unb, lst := [] :: st.lst } { s with heap := h1, toks := tk1 } := by
      refine ⟨⟨fun a o q => k1 _ _ (H.keep a o q), H.mutA, fun a => (H.lt a).imp id fun ⟨o, q⟩ => ⟨o, k1 a o q⟩, fun a o q => k1 _ _ (H.frz a o q), H.ni, H.nl, H.iaR, fun k i q => ?_, fun gg hg pp hp => ?_, ?_⟩, ?_⟩
      · obtain ⟨es, m, e1, e2, r⟩ := H.insA k i q
        exact ⟨es, m, k1 _ _ e1, k1 _ _ e2, r⟩
      · rcases List.mem_cons.mp hg with q | hg
        · subst q; cases hp
        · obtain ⟨q1, q2, us, m, q3, q4⟩ := H.lstA gg hg pp hp
          exact ⟨q1, q2, us, m, k1 _ _ q3, q4⟩
      · show ((([] : List (Nat × List AV)) ++ st.lst.flatten).map (·.1)).Nodup
        exact H.nodup
      · refine ⟨⟨_, x1.toInCall.ns, fun i x u a1 a2 a3 a4 => ?_⟩, fun i x u a1 a2 a3 a4 => ?_, fun y a q => ⟨_, x1.cell y a q⟩, fun x hx hk => ?_, hkinds, x1.apart, fun a ha => mem_filterMap_lookup ha, H.oth_of_none hnL, fun y a q => ⟨H.oth_of_none (hnC y a q), Nat.ne_of_gt (x1.above y a (mem_of_lookup q)), H.base_none (hnC y a q)⟩, H.base_none hnL, rfl, D.kind, D.globals, D.builtins, D.nodup⟩
        · have hi : i < names.length := by
            rcases Nat.lt_or_ge i names.length with q | q
            · exact q
            · exfalso
              rw [List.getElem?_append_right (by omega)] at a2
              rw [List.getElem?_replicate] at a2
              split at a2
              · cases a2; exact a3 rfl
              · cases a2
          rw [List.getElem?_append_left hi] at a1
          rw [List.getElem?_append_left (by omega)] at a2
          obtain ⟨w, b1, b2⟩ := hv.get a2
          exact ⟨w, bindL_get a4 (List.nodup_append.mp D.nodup).1 a1 b1, b2⟩
        · have hi : i < names.length := by
            rcases Nat.lt_or_ge i names.length with q | q
            · exact q
            · exfalso
              rw [List.getElem?_append_right (by omega)] at a2
              rw [List.getElem?_replicate] at a2
              split at a2
              · cases a2; exact a3 rfl
              · cases a2
          rw [List.getElem?_append_left hi] at a1
          rw [List.getElem?_append_left (by omega)] at a2
          obtain ⟨w, b1, b2⟩ := hv.get a2
          obtain ⟨a, q⟩ := Option.isSome_iff_exists.mp (hcell x (List.mem_append_left _ (List.mem_of_getElem? a1)) a4 (s.heap.objs.size + 1))
          have := x1.cell x a q
          rw [bindC_get (by rw [a4]; intro z; cases z) (List.nodup_append.mp D.nodup).1 a1 b1] at this
          exact ⟨w, a, q, this, b2⟩
        · obtain ⟨a, q⟩ := Option.isSome_iff_exists.mp (hcell x hx hk (s.heap.objs.size + 1))
          exact ⟨a, q, fun _ => List.mem_filterMap.mpr ⟨x, hx, q⟩⟩
    have hown : ∀ a, p.Own a → s.heap.get? a = .none := fun a ha => by
      rcases ha with rfl | ha
      · exact hnL
      · obtain ⟨x, q⟩ := mem_filterMap_lookup ha; exact hnC x a q
    have fin : ∀ (fl : Flow) (u : AV) (st1 : AS), fnl st.loc u st1 = some (v, st') →
        ∀ W1 s2, Ext p.Own W { s with heap := h1, toks := tk1 } W1 s2 → Inv c p W1 st1 s2 → VR W1 (match fl with | .ret w => w | _ => .none) u → R (.ok (.ret (match fl with | .ret w => w | _ => .none))) s2 := by
      intro fl u st1 e' W1 s2 x2 I2 r2
      obtain ⟨W2, l2, h2, r3, o2⟩ := FO W1 st1 st' s2.heap st.loc u v _ e' I2.hr r2
      exact hR W2 _ s2 ⟨x2.le.trans l2, fun a o q => x2.alive a o (k1 a o q), fun a o q z => o2 a (x2.oth a o (k1 a o q) z), fun a o hm _ q => x2.kept a o hm (fun z => by rw [hown a z] at q; cases q) (k1 a o q), x2.gens, x2.os⟩ h2 r3
    have body := hS p rfl (hr.deeper env) W W _ _ (Le.refl _) I1
    refine wpAny_noRaise ?_
    split at e
    · rename_i u st1 hg
      refine body _ _ hg _ _ fun W1 fl s2 x2 I2 r2 => ?_
      cases r2 with
      | ret r2 => exact fin (.ret _) u st1 e W1 s2 x2 I2 r2
    · rename_i st1 hg
      refine body _ _ hg _ _ fun W1 fl s2 x2 I2 r2 => ?_
      cases r2 with
      | next => exact fin .next .none st1 e W1 s2 x2 I2 .none
    · cases e
theorem endFn_ok : FinOk c endFn := by
  intro W st st' h loc u v val e H r
  unfold endFn at e
  split at e
  · rename_i seg r' hseg
    cases e
    exact ⟨W.freeze seg h, Le.freeze .., (H.freezeSeg hseg).loc _, frzV_ok H hseg r, fun a z => by rw [freeze_role (by intro k zz; rw [z] at zz; cases zz)]; exact z⟩
  · cases e
theorem fn_ok (G : Gd c) {fa : Addr} {fd : FuncData} {body : List Stmt} {names others : List Str} {g : Cm AF} (D : FnIs c fa fd body names others)
    (hS : ImplS c n ⟨fd.scope, names ++ others, names ++ others⟩ body g) : ImplF c (n + 1) fa (runFn names.length others.length g) := fn_okG G endFn_ok D hS
noncomputable def OkCall (c : Cx) (n : Nat) (f : Value) (F : List AV → Cm AV) : Prop := ∀ p : Pl, Room n p.A → ∀ W0 vs xs, VRs W0 vs xs → Ok c p W0 (call f vs) VR (F xs)
noncomputable def callM (F : List AV → Cm AV) (xs : List AV) : Cm AV := fun st => match F xs st with
  | some (v, st') => some (v, { st' with loc := st.loc })
  | .none => .none
theorem ImplF.call {fa : Addr} {F : List AV → Cm AV} (h : ImplF c n fa F) : OkCall c n (.ref fa) (callM F) := by
  intro p hr W0 vs xs hv W st s hle I b st' e Q E hQ
  unfold callM at e
  split at e
  · rename_i v st1 hF
    cases e
    refine wpAny_call (h p.A W st s hr I.hr vs xs (hv.mono hle) _ _ hF _ fun W' val s' x H r => ?_)
    exact hQ W' val s' (x.weaken fun _ q => q.elim) ⟨H.loc _, I.fr.ext x (fun q => q) fun _ _ _ q => q⟩ r
  · cases e
theorem evalArgs_row {M : Model} {A : Around} {E : Value → Shared → Prop} {s : Shared} {f : Value} {env : Env} {pos : Pos} {es : List Expr} {Q : Args → Shared → Prop} (hp : es.all plainX = true)
    (h : wpAny M A (spliced (backTo pos (starEach es env))) (fun vs s' => Q ⟨vs, []⟩ s') E s) : wpAny M A (evalArgs f true (backTo pos (starEach es env)) []) Q E s := by
  cases es with
  | nil =>
    unfold evalArgs
    show wpAny M A (spliced [] >>= _) Q E s
    exact wpAny_bind (wpAny_mono h (fun vs s' h' => wpAny_bind (wpAny_pure (wpAny_holding (wpAny_bind (wpAny_pure (wpAny_bind (wpAny_pure (wpAny_pure h')))))))) fun _ _ x => x)
  | cons e r =>
    have he : plainX e = true := (Bool.and_eq_true_iff.mp (List.all_cons ▸ hp)).1
    rw [star_plain he] at h ⊢
    exact Calls.evalArgs_plain h
theorem any_false {es : List Expr} {env : Env} {pos : Pos} (hp : es.all plainX = true) : (backTo pos (starEach es env)).any (·.1) = false := by
  induction es with
  | nil => rfl
  | cons e r ih =>
    obtain ⟨h1, h2⟩ := Bool.and_eq_true_iff.mp (List.all_cons ▸ hp)
    rw [star_plain h1]
    show (false || (backTo pos (starEach r env)).any (·.1)) = false
    rw [ih h2]; rfl
theorem ImplE.callFn (G : Gd c) {x : Str} {p0 pos : Pos} {es : List Expr} {fa : Addr} {fs : Cm (List AV)} {F : List AV → Cm AV} (hx : sx.sc.names.lookup x = some .globalImplicit) (hg : c.Glob x (.ref fa))
    (hfn : ∃ oc od fd osl, c.K.lookup fa = some ⟨oc, od, .func fd, osl⟩) (h1 : ImplEs c n sx es fs) (h2 : ImplF c n fa F) (hd : (x == ("__debug__" : Str)) = false := by decide) (hp : es.all plainX = true := by rfl) :
    ImplE c n sx (.Call (.Name x p0) es [] pos) (bd fs (callM F)) := by
  intro p hsx hr W0 W st s hle I b st' e Q E hQ
  obtain ⟨xs, st1, e1, e2⟩ := bd_some e
  obtain ⟨oc, od, fd, osl, hK⟩ := hfn
  refine Call_ (load_glob G I (by rw [hsx]; exact hx) hg hd ?_)
  refine Calls.callWith_function (o := ⟨oc, od, .func fd, osl⟩) (fd := fd) (evalArgs_row hp ?_)
  refine h1 p hsx hr W pos W st s (Le.refl _) I xs st1 e1 _ E fun W1 vs s1 x1 I1 r1 => ?_
  refine ⟨⟨I1.hr.keep _ _ (G.inK _ _ hK), rfl⟩, ?_⟩
  exact h2.call p hr W1 vs xs r1 W1 st1 s1 (Le.refl _) I1 b st' e2 Q E fun W2 v s2 x2 I2 r2 => hQ W2 v s2 (x1.trans x2) I2 r2
theorem ImplE.callB (G : Gd c) {x : Str} {p0 pos : Pos} {es : List Expr} {id : String} {fs : Cm (List AV)} {F : List AV → Cm AV} (hx : sx.sc.names.lookup x = some .globalImplicit) (hg : c.Glob x (.builtin id))
    (h1 : ImplEs c n sx es fs) (h2 : OkCall c n (.builtin id) F) (hd : (x == ("__debug__" : Str)) = false := by decide) (hp : es.all plainX = true := by rfl) :
    ImplE c n sx (.Call (.Name x p0) es [] pos) (bd fs F) := by
  intro p hsx hr W0 W st s hle I b st' e Q E hQ
  obtain ⟨xs, st1, e1, e2⟩ := bd_some e
  refine Call_ (load_glob G I (by rw [hsx]; exact hx) hg hd ?_)
  refine Calls.callWith_builtin (any_false hp) (evalArgs_row hp ?_)
  refine h1 p hsx hr W pos W st s (Le.refl _) I xs st1 e1 _ E fun W1 vs s1 x1 I1 r1 => ?_
  exact h2 p hr W1 vs xs r1 W1 st1 s1 (Le.refl _) I1 b st' e2 Q E fun W2 v s2 x2 I2 r2 => hQ W2 v s2 (x1.trans x2) I2 r2
theorem ImplE.callT (G : Gd c) {x : Str} {p0 pos : Pos} {es : List Expr} {T : String} {fs : Cm (List AV)} {F : List AV → Cm AV} (hx : sx.sc.names.lookup x = some .globalImplicit) (hg : c.Glob x (.type T))
    (h1 : ImplEs c n sx es fs) (h2 : OkCall c n (.type T) F) (hd : (x == ("__debug__" : Str)) = false := by decide) (hp : es.all plainX = true := by rfl) :
    ImplE c n sx (.Call (.Name x p0) es [] pos) (bd fs F) := by
  intro p hsx hr W0 W st s hle I b st' e Q E hQ
  obtain ⟨xs, st1, e1, e2⟩ := bd_some e
  refine Call_ (load_glob G I (by rw [hsx]; exact hx) hg hd ?_)
  refine PyProof.Rows.callWith_type (any_false hp) (evalArgs_row hp ?_)
  refine h1 p hsx hr W pos W st s (Le.refl _) I xs st1 e1 _ E fun W1 vs s1 x1 I1 r1 => ?_
  exact h2 p hr W1 vs xs r1 W1 st1 s1 (Le.refl _) I1 b st' e2 Q E fun W2 v s2 x2 I2 r2 => hQ W2 v s2 (x1.trans x2) I2 r2
end
end Mine

namespace Mine

structure Cls (c : Cx) : Prop where
  makes : makesIn c.K c.C = true
  ga : findIn c.K (.ref c.C) "__getattribute__" = some (some (.builtin "object.__getattribute__"))
  gat : findIn c.K (.ref c.C) "__getattr__" = some .none
  sa : findIn c.K (.ref c.C) "__setattr__" = some (some (.builtin "object.__setattr__"))
  plain : plainOver c.K c.C = true
  hasDict : hasDictIn c.K c.C = true
  fields : ∀ f : Fd, findIn c.K (.ref c.C) (fkey f) = some .none
  keep : keepIn c.K (.ref c.C) = true
section
variable {c : Cx} {n : Nat} {sx : Sx}

theorem HR.inK (G : Gd c) {W : Wd} {st : AS} {h : Heap} (H : HR c W st h) : c.K.In h := fun a o e => H.keep a o (G.inK a o e)
theorem HR.instAt {W : Wd} {st : AS} {h : Heap} (H : HR c W st h) {k : Nat} {i : Ins} (e : st.ins[k]? = some i) : ∃ es m, InstAt h (W.ia k) (instObj c.C (W.da k)) c.C (some (dictOf es m)) ∧ FieldsAre W es i := by
  obtain ⟨es, m, e1, e2, r⟩ := H.insA k i e
  exact ⟨es, m, ⟨e1, rfl, rfl, e2⟩, r⟩
theorem set_raw (C : Cls c) {A : Around} {E : Value → Shared → Prop} {s : Shared} {x d : Addr} {es : List DictEntry} {m : Nat} {name : Str} {v : Value} {Q : Unit → Shared → Prop} (X : c.K.In s.heap)
    (I : InstAt s.heap x (instObj c.C d) c.C (some (dictOf es m))) (hf : findIn c.K (.ref c.C) name = some .none) (hl : (PySem.W.getL name es).isSome = true) (hz : (PySem.W.putL name (PyData.keyHash c.w.params name) (.str name (s.toks + 1)) v es).length ≤ 1000)
    (h : ∀ h', h'.get? d = some (dictOf (PySem.W.putL name (PyData.keyHash c.w.params name) (.str name (s.toks + 1)) v es) (putN name es m)) → Heap.SameBut d s.heap h' → Q () { s with heap := h', toks := s.toks + 2 }) :
    wpAny (model c.prog c.w) A (setAttr (.ref x) name v) Q E s := by
  refine set_plain X I C.sa ?_
  refine osa_open (s := { s with toks := s.toks + 1 }) X I C.plain (r := .none) (by unfold takerIn; rw [hf]; rfl) fun b => ?_
  obtain ⟨cd, hc, hd'⟩ := any_some C.hasDict
  have D : s.heap.get? d = some (dictOf es m) := I.dict
  have D' : (s.heap.update d (Obj.putName name (PyData.keyHash c.w.params name) (.str name (s.toks + 1)) v)).get? d = some (dictOf (PySem.W.putL name (PyData.keyHash c.w.params name) (.str name (s.toks + 1)) v es) (putN name es m)) := by
    rw [← putName_dict]
    exact Heap.get?_update_self _ D (by rw [putName_dict]; rfl)
  refine wpAny_bind (wpAny_pure (wpAny_bind (wpAny_bind (wpAny_loadPart I.at_ (wpAny_bind (looks_clsIn X hc _ _ _ _ (fun _ _ e => e) ?_))))))
  rw [hd']
  refine wpAny_pure (a := some d) (wpAny_bind (wpAny_pure (wpAny_bind ?_)))
  unfold nsSet
  refine wpAny_bind (wpAny_bind (wpAny_askSetting (wpAny_pure (wpAny_bind (wpAny_mkText (wpAny_bind (wpAny_loadPart D ?_)))))))
  dsimp only
  have cc : (!es.toArray.any (·.key.isStr name) && es.toArray.any (·.refKey)) = false := by
    rw [← Array.any_toList, ← Array.any_toList]
    unfold PySem.W.getL at hl
    split at hl
    · rename_i en he
      rw [List.any_eq_true.mpr ⟨en, List.mem_of_find?_eq_some he, List.find?_some he⟩]; rfl
    · split at hl
      · cases hl
      · rename_i z; rw [Bool.not_eq_true] at z; rw [z, Bool.and_false]
  rw [aRefKeyMayBeTheName_at, cc]
  refine wpAny_updatePart D ?_
  refine wpAny_bind (wpAny_lookBehind D' (pastItsLine_dict (by rw [List.size_toArray, sizeLine_eq]; omega)) ?_)
  exact wpAny_pure (h _ D' (Heap.SameBut.update ..))
noncomputable def attrM (f : Fd) : AV → Cm AV := fun o => match o with
  | .ins k => fun st => (match st.ins[k]? with | some i => some (i.get f, st) | .none => .none)
  | _ => no
noncomputable def putM (f : Fd) : AV → AV → Cm Unit := fun o v => match o with
  | .ins k => fun st => (match st.ins[k]? with | some i => some ((), { st with ins := st.ins.set k (i.put v f) }) | .none => .none)
  | _ => no
theorem attr_ok (G : Gd c) (C : Cls c) {p : Pl} {W0 : Wd} {f : Fd} {o : Value} {x : AV} (hv : VR W0 o x) : Ok c p W0 (getAttr o (fkey f) true) VR (attrM f x) := by
  intro W st s hle I b st' e Q E hQ
  cases hv.mono hle with
  | ins k hk =>
    simp only [attrM] at e
    split at e
    · rename_i i hi
      cases e
      obtain ⟨es, m, J, r⟩ := I.hr.instAt hi
      obtain ⟨v, hl, rv⟩ := r.get f
      refine get_value (I.hr.inK G) J C.ga (findObj_own C.hasDict (C.fields f) rfl hl) rv.handed ?_
      exact hQ W v _ ((Ext.refl ..).toks _) (I.toks _) rv
    · cases e
  | _ => cases e
theorem HR.dct {W : Wd} {st : AS} {h h' : Heap} {k : Nat} {i : Ins} {es : List DictEntry} {m : Nat} (H : HR c W st h) (hi : ∃ i0, st.ins[k]? = some i0) (hd : h'.get? (W.da k) = some (dictOf es m)) (hs : Heap.SameBut (W.da k) h h') (hf : FieldsAre W es i) :
    HR c W { st with ins := st.ins.set k i } h' := by
  obtain ⟨i0, hi⟩ := hi
  have hk : k < W.ni := by rw [H.ni]; exact (List.getElem?_eq_some_iff.mp hi).1
  obtain ⟨r1, r2⟩ := H.iaR k hk
  have hm : W.Mut (W.da k) := by unfold Wd.Mut; rw [r2]; trivial
  have kp : ∀ a o, a ≠ W.da k → h.get? a = some o → h'.get? a = some o := fun a o ha e => hs.extBut a o ha e
  refine ⟨fun a o e => kp a o (fun q => ?_) (H.keep a o e), H.mutA, fun a => ?_, fun a o e => kp a o (fun q => ?_) (H.frz a o e), ?_, H.nl, H.iaR, fun j y e => ?_, fun g hg q hq => ?_, H.nodup⟩
  · rw [q, H.mutA _ hm] at e; cases e
  · rcases Classical.em (a = W.da k) with q | q
    · subst q; exact .inr ⟨_, hd⟩
    · exact (H.lt a).imp id fun ⟨o, z⟩ => ⟨o, kp a o q z⟩
  · rw [q, r2] at e; cases e
  · show W.ni = (st.ins.set k i).length; rw [List.length_set]; exact H.ni
  · have e' : (st.ins.set k i)[j]? = some y := e
    rw [List.getElem?_set] at e'
    by_cases hkj : k = j
    · subst hkj
      rw [if_pos rfl] at e'
      split at e'
      · cases e'
        obtain ⟨es0, m0, e1, e2, _⟩ := H.insA k i0 hi
        exact ⟨es, m, kp _ _ (fun q => by rw [q, r2] at r1; cases r1) e1, hd, hf⟩
      · cases e'
    · rw [if_neg hkj] at e'
      obtain ⟨es0, m0, e1, e2, r⟩ := H.insA j y e'
      have hj : j < W.ni := by rw [H.ni]; exact (List.getElem?_eq_some_iff.mp e').1
      obtain ⟨s1, s2⟩ := H.iaR j hj
      exact ⟨es0, m0, kp _ _ (fun q => by rw [q, r2] at s1; cases s1) e1, kp _ _ (fun q => by rw [q, r2] at s2; cases s2; exact hkj rfl) e2, r⟩
  · obtain ⟨h1, h2, vs, m0, h3, h4⟩ := H.lstA g hg q hq
    exact ⟨h1, h2, vs, m0, kp _ _ (fun z => by rw [z, r2] at h2; cases h2) h3, h4⟩
theorem Ext.change {own : Addr → Prop} {W : Wd} {s : Shared} {a : Addr} {h' : Heap} {tk : Nat} (hm : W.Mut a) (hs : Heap.SameBut a s.heap h') (ha : ∃ o, h'.get? a = some o) : Ext own W s W { s with heap := h', toks := tk } :=
  ⟨Le.refl W, fun b o e => by
      rcases Classical.em (b = a) with q | q
      · subst q; exact ha
      · exact ⟨o, hs.extBut b o q e⟩,
    fun _ _ _ e => e, fun b o hb _ e => hs.extBut b o (fun q => hb (q ▸ hm)) e, rfl, rfl⟩
theorem FrV.change {p : Pl} {W : Wd} {loc : List AV} {h h' : Heap} {a : Addr} (F : FrV c p W loc h) (hm : W.Mut a) (hs : Heap.SameBut a h h') : FrV c p W loc h' :=
  F.grow fun b o hb e => hs.extBut b o (fun q => by
    subst q
    rcases hb with hb | ⟨x, hb⟩
    · unfold Wd.Mut at hm; rw [hb, F.roleL] at hm; exact hm
    · unfold Wd.Mut at hm; rw [(F.roleC x b hb).1] at hm; exact hm) e
theorem put_ok (G : Gd c) (C : Cls c) {p : Pl} {W0 : Wd} {f : Fd} {o val : Value} {x v : AV} (ho : VR W0 o x) (hv : VR W0 val v) : Ok c p W0 (setAttr o (fkey f) val) (fun _ _ _ => True) (putM f x v) := by
  intro W st s hle I b st' e Q E hQ
  cases ho.mono hle with
  | ins k hk =>
    simp only [putM] at e
    split at e
    · rename_i i hi
      cases e
      obtain ⟨es, m, J, r⟩ := I.hr.instAt hi
      obtain ⟨v0, hl, _⟩ := r.get f
      have hm : W.Mut (W.da k) := by unfold Wd.Mut; rw [(I.hr.iaR k hk).2]; trivial
      have r' := r.put f (hv.mono hle) (PyData.keyHash c.w.params (fkey f)) (.str (fkey f) (s.toks + 1))
      refine set_raw C (I.hr.inK G) J (C.fields f) (by rw [hl]; rfl) (by rw [r'.len]; decide) fun h' hd hs => ?_
      exact hQ W () _ (Ext.change hm hs ⟨_, hd⟩) ⟨I.hr.dct ⟨i, hi⟩ hd hs r', I.fr.change hm hs⟩ trivial
    · cases e
  | _ => cases e
theorem ImplE.attr (G : Gd c) (C : Cls c) {o : Expr} {pos : Pos} {f : Fd} {g : Cm AV} (h : ImplE c n sx o g) (hb : ∀ env t, attributeBase o (fkey f) env t = t := by intro _ _; rfl) : ImplE c n sx (.Attribute o (fkey f) pos) (bd g (attrM f)) := by
  intro p hsx hr W0 W st s hle I b st' e Q E hQ
  obtain ⟨x, st1, e1, e2⟩ := bd_some e
  refine Attribute_any_ (h p hsx hr W W st s (Le.refl _) I x st1 e1 _ E fun W1 v s1 x1 I1 r1 => ?_) (by rw [arm_eval_Attribute, hb])
  exact attr_ok G C r1 W1 st1 s1 (Le.refl _) I1 b st' e2 Q E fun W2 v s2 x2 I2 r2 => hQ W2 v s2 (x1.trans x2) I2 r2
theorem ImplA.attr (G : Gd c) (C : Cls c) {o : Expr} {pos : Pos} {f : Fd} {g : Cm AV} (h : ImplE c n sx o g) : ImplA c n sx (.Attribute o (fkey f) pos) (fun v => bd g fun x => putM f x v) := by
  intro p hsx hr W0 val v hv W st s hle I b st' e Q E hQ
  obtain ⟨x, st1, e1, e2⟩ := bd_some e
  show wpAny _ _ (do
    let ov ← holding [val] (eval o p.env)
    standAt pos.atName
    holding [val, ov] (setAttr ov (fkey f) val)
    release [val, ov] []) Q E s
  refine wpAny_bind (wpAny_holding (h p hsx hr W W st s (Le.refl _) I x st1 e1 _ E fun W1 ov s1 x1 I1 r1 => ?_))
  refine wpAny_bind (wpAny_standAt (wpAny_bind (wpAny_holding ?_)))
  refine put_ok G C r1 ((hv.mono hle).mono x1.le) W1 st1 s1 (Le.refl _) I1 b st' e2 _ E fun W2 u s2 x2 I2 r2 => ?_
  exact wpAny_release (hQ W2 _ s2 (x1.trans x2) I2 trivial)
noncomputable def getF (f : Fd) : List AV → Cm AV := fun xs => match xs with
  | [o] => attrM f o
  | _ => no
noncomputable def setF (f : Fd) : List AV → Cm AV := fun xs => match xs with
  | [o, v] => bd (putM f o v) fun _ => pu .none
  | _ => no
theorem attrM_spec {f : Fd} {o v : AV} {st st' : AS} (h : attrM f o st = some (v, st')) : ∃ k i, o = .ins k ∧ st.ins[k]? = some i ∧ v = i.get f ∧ st' = st := by
  cases o <;> simp only [attrM, no] at h <;> try cases h
  split at h
  · rename_i i hi; cases h; exact ⟨_, i, rfl, hi, rfl, rfl⟩
  · cases h
theorem putM_spec {f : Fd} {o v : AV} {st st' : AS} {u : Unit} (h : putM f o v st = some (u, st')) : ∃ k i, o = .ins k ∧ st.ins[k]? = some i ∧ st' = { st with ins := st.ins.set k (i.put v f) } := by
  cases o <;> simp only [putM, no] at h <;> try cases h
  split at h
  · rename_i i hi; cases h; exact ⟨_, i, rfl, hi, rfl⟩
  · cases h
theorem frz0_nil (v : AV) : frz0 [] v = v := by cases v <;> rfl
theorem frzV_nil (v : AV) : frzV [] v = v := by
  cases v with
  | tup vs =>
    simp only [frzV]
    congr 1
    induction vs with
    | nil => rfl
    | cons a r ih => rw [List.map_cons, frz0_nil, ih]
  | _ => rfl
theorem getter_ok (G : Gd c) (C : Cls c) {fa : Addr} {fd : FuncData} {x : Str} {f : Fd} {p1 p2 p3 : Pos} (D : FnIs c fa fd [.Return (some (.Attribute (.Name x p1) (fkey f) p2)) p3] [x] []) (hd : (x == ("__debug__" : Str)) = false) : ImplF c (n + 1) fa (getF f) := by
  refine (fn_ok (n := n) G D (ImplS.cons (ImplS1.ret (ImplE.attr G C (ImplE.name (i := 0) rfl hd))) ImplS.nil)).sub fun xs st b st' e => ?_
  unfold getF at e
  split at e
  · rename_i o
    obtain ⟨k, i, rfl, hi, rfl, rfl⟩ := attrM_spec e
    simp [runFn, runFnG, thenM, retM, bd, var, attrM, pu, endFn, hi, frzV_nil]
  · cases e
theorem VR.notU {W : Wd} {v : Value} {x : AV} (h : VR W v x) : x ≠ .unb := by intro q; subst q; cases h
theorem setter_ok (G : Gd c) (C : Cls c) {fa : Addr} {fd : FuncData} {x y : Str} {f : Fd} {p1 p2 p3 p4 : Pos} (D : FnIs c fa fd [.Assign [.Attribute (.Name x p1) (fkey f) p2] (.Name y p3) p4] [x, y] [])
    (hd : (x == ("__debug__" : Str)) = false) (hd' : (y == ("__debug__" : Str)) = false) : ImplF c (n + 1) fa (setF f) := by
  intro A W st s hr H vs xs hv v st' e R hR
  refine fn_ok (n := n) G D (ImplS.cons (ImplS1.assign (ImplE.name (i := 1) rfl hd') (ImplA.attr G C (ImplE.name (i := 0) rfl hd))) ImplS.nil) A W st s hr H vs xs hv v st' ?_ R hR
  unfold setF at e
  split at e
  · rename_i o w
    obtain ⟨u, st2, e3, e4⟩ := bd_some e
    cases e4
    obtain ⟨k, i, rfl, hi, rfl⟩ := putM_spec e3
    have hw : w ≠ .unb := by
      cases hv with
      | cons _ h2 =>
        cases h2 with
        | cons h3 _ => exact h3.notU
    have w1 : ∀ st : AS, st.loc[1]? = some w → var 1 st = some (w, st) := fun st q => var_get q hw
    have w0 : ∀ st : AS, st.loc[0]? = some (.ins k) → var 0 st = some (.ins k, st) := fun st q => var_get q nofun
    simp [runFn, runFnG, thenM, asgM, bd, w1, w0, putM, pu, endFn, hi, frzV_nil]
  · cases e
structure MethIs (c : Cx) (m : Str) (fa : Addr) : Prop where
  find : findIn c.K (.ref c.C) m = some (some (.ref fa))
  typ : typeIn c.K (.ref fa) = some (.type "function")
  fn : ∃ oc od fd osl, c.K.lookup fa = some ⟨oc, od, .func fd, osl⟩
  other : ∀ f : Fd, (fkey f == m) = false
theorem FieldsAre.miss {W : Wd} {es : List DictEntry} {i : Ins} (h : FieldsAre W es i) {m : Str} (hm : ∀ f : Fd, (fkey f == m) = false) : PySem.W.getL m es = some .none := by
  cases h with
  | mk a b c d e => simp only [PySem.W.getL, List.find?, Value.isStr, hm, List.any_cons, List.any_nil, DictEntry.refKey]; rfl
noncomputable def methM (o : Cm AV) (args : Cm (List AV)) (F : List AV → Cm AV) : Cm AV := bd o fun x => match x with
  | .ins k => bd args fun ys => callM F (.ins k :: ys)
  | _ => no
theorem ImplE.meth (G : Gd c) (C : Cls c) {o : Expr} {m : Str} {apos pos : Pos} {es : List Expr} {fa : Addr} {fo : Cm AV} {fs : Cm (List AV)} {F : List AV → Cm AV} (M : MethIs c m fa) (h0 : ImplE c n sx o fo) (h1 : ImplEs c n sx es fs) (h2 : ImplF c n fa F)
    (hb : ∀ env t, attributeBase o m env t = t := by intro _ _; rfl) (hp : es.all plainX = true := by rfl) (hl : (apos.endLine == pos.line) = true := by rfl) (hfew : decide (es.length < 30) = true := by rfl) :
    ImplE c n sx (.Call (.Attribute o m apos) es [] pos) (methM fo fs F) := by
  intro p hsx hr W0 W st s hle I b st' e Q E hQ
  obtain ⟨x, st1, e1, e2⟩ := bd_some e
  obtain ⟨oc, od, fd, osl, hK⟩ := M.fn
  rw [arm_eval_Call, hb]
  refine wpAny_bind (h0 p hsx hr W W st s (Le.refl _) I x st1 e1 _ E fun W1 ov s1 x1 I1 r1 => wpAny_bind (wpAny_standAt ?_))
  cases r1 with
  | ins k hk =>
    obtain ⟨ys, st2, e3, e4⟩ := bd_some e2
    have hform : methodCallForm (es.length + ([] : List Keyword).length) (backTo pos (starEach es p.env)) (backToKw pos (keywordEach [] p.env)) = true := by
      unfold methodCallForm
      have h1 : (backTo pos (starEach es p.env)).all (fun x => !x.1) = true := by
        have := any_false (env := p.env) (pos := pos) hp
        rw [List.all_eq_not_any_not]; simpa using this
      rw [h1]
      show (true && true && decide (es.length + 0 + 0 < 30)) = true
      simpa using hfew
    have hpos : methodCallPos true o p.env apos pos = pure pos := by unfold methodCallPos; simp [hl]
    unfold methodCall
    rw [hform]
    have hi : ∃ i, st1.ins[k]? = some i := by
      have : k < st1.ins.length := by rw [← I1.hr.ni]; exact hk
      exact ⟨_, List.getElem?_eq_getElem this⟩
    obtain ⟨i, hi⟩ := hi
    obtain ⟨ess, mm, J, r⟩ := I1.hr.instAt hi
    refine wpAny_bind (wpAny_holding ?_)
    show wpAny _ _ (getMethod (.ref (W1.ia k)) m _) _ _ _
    refine method_fn (I1.hr.inK G) J C.ga C.gat M.find M.typ (by show (lookIn m (dictOf ess mm)).map _ = _; rw [lookIn_dict, r.miss M.other]; rfl) ?_
    refine wpAny_bind (wpAny_of_eq hpos ?_)
    refine Calls.callWith_function (o := ⟨oc, od, .func fd, osl⟩) (fd := fd) (evalArgs_row hp ?_)
    refine h1 p hsx hr W1 pos W1 st1 s1 (Le.refl _) I1 ys st2 e3 _ E fun W2 vs s2 x2 I2 r2 => ?_
    refine ⟨⟨I2.hr.keep _ _ (G.inK _ _ hK), rfl⟩, ?_⟩
    refine h2.call p hr W2 _ _ (.cons ((VR.ins k hk).mono x2.le) r2) W2 st2 s2 (Le.refl _) I2 b st' e4 Q E fun W3 v s3 x3 I3 r3 => hQ W3 v s3 ((x1.trans x2).trans x3) I3 r3
  | _ => cases e2
noncomputable def blank (v : AV) : Ins := ⟨v, .none, .none, .none, .none⟩
noncomputable def newM : List AV → Cm AV := fun xs st => match xs with
  | [] => some (.ins st.ins.length, { st with ins := st.ins ++ [blank .none] })
  | [v] => some (.ins st.ins.length, { st with ins := st.ins ++ [blank v] })
  | _ => .none
noncomputable def Wd.addIns (W : Wd) (x d : Addr) : Wd :=
  { W with role := fun b => if b = x then .ins W.ni else if b = d then .dct W.ni else W.role b, ia := fun k => if k = W.ni then x else W.ia k, da := fun k => if k = W.ni then d else W.da k, ni := W.ni + 1 }
theorem Wd.addIns_other {W : Wd} {x d b : Addr} (h1 : b ≠ x) (h2 : b ≠ d) : (W.addIns x d).role b = W.role b := by
  unfold Wd.addIns; simp [h1, h2]
theorem Le.addIns {W : Wd} {x d : Addr} (hx : W.role x = .oth) (hd : W.role d = .oth) : Le W (W.addIns x d) where
  ni := Nat.le_succ _
  nl := Nat.le_refl _
  ia := fun k hk => if_neg (Nat.ne_of_lt hk)
  da := fun k hk => if_neg (Nat.ne_of_lt hk)
  la := fun _ _ => rfl
  frz := fun a o e => by
    rw [Wd.addIns_other]; exact e
    · intro q; rw [q, hx] at e; cases e
    · intro q; rw [q, hd] at e; cases e
theorem HR.addIns {W : Wd} {st : AS} {h : Heap} {x d : Addr} {es : List DictEntry} {m : Nat} {i : Ins} (H : HR c W st h) (hxd : x ≠ d) (hx : W.role x = .oth) (hd : W.role d = .oth) (bx : c.h0.get? x = .none) (bd' : c.h0.get? d = .none)
    (gx : h.get? x = some (instObj c.C d)) (gd : h.get? d = some (dictOf es m)) (hf : FieldsAre W es i) : HR c (W.addIns x d) { st with ins := st.ins ++ [i] } h := by
  have L := Le.addIns hx hd
  have ne : ∀ b, W.role b ≠ .oth → (W.addIns x d).role b = W.role b := fun b hb => Wd.addIns_other (fun q => hb (q ▸ hx)) (fun q => hb (q ▸ hd))
  have rx : (W.addIns x d).role x = .ins W.ni := by unfold Wd.addIns; simp
  have rd : (W.addIns x d).role d = .dct W.ni := by unfold Wd.addIns; simp [Ne.symm hxd]
  refine ⟨H.keep, fun b hb => ?_, fun b => ?_, fun b o e => ?_, ?_, H.nl, fun k hk => ?_, fun k y e => ?_, fun g hg p hp => ?_, H.nodup⟩
  · by_cases h1 : b = x
    · rw [h1]; exact bx
    · by_cases h2 : b = d
      · rw [h2]; exact bd'
      · refine H.mutA b ?_; unfold Wd.Mut at hb ⊢; rwa [Wd.addIns_other h1 h2] at hb
  · by_cases h1 : b = x
    · rw [h1]; exact .inr ⟨_, gx⟩
    · by_cases h2 : b = d
      · rw [h2]; exact .inr ⟨_, gd⟩
      · rw [Wd.addIns_other h1 h2]; exact H.lt b
  · by_cases h1 : b = x
    · rw [h1, rx] at e; cases e
    · by_cases h2 : b = d
      · rw [h2, rd] at e; cases e
      · rw [Wd.addIns_other h1 h2] at e; exact H.frz b o e
  · show W.ni + 1 = (st.ins ++ [i]).length
    rw [List.length_append, H.ni]; rfl
  · by_cases hk' : k = W.ni
    · subst hk'
      have e1 : (W.addIns x d).ia W.ni = x := if_pos rfl
      have e2 : (W.addIns x d).da W.ni = d := if_pos rfl
      rw [e1, e2]; exact ⟨rx, rd⟩
    · have hlt : k < W.ni := by have : k < W.ni + 1 := hk; omega
      rw [L.ia k hlt, L.da k hlt]
      obtain ⟨r1, r2⟩ := H.iaR k hlt
      exact ⟨(ne _ (by rw [r1]; intro q; cases q)).trans r1, (ne _ (by rw [r2]; intro q; cases q)).trans r2⟩
  · have e' : (st.ins ++ [i])[k]? = some y := e
    by_cases hlt : k < st.ins.length
    · rw [List.getElem?_append_left hlt] at e'
      obtain ⟨es0, m0, e1, e2, r⟩ := H.insA k y e'
      rw [L.ia k (by rw [H.ni]; exact hlt), L.da k (by rw [H.ni]; exact hlt)]
      exact ⟨es0, m0, e1, e2, r.mono L⟩
    · have hk' : k = W.ni := by
        rw [List.getElem?_append_right (by omega)] at e'
        have : k - st.ins.length < 1 := (List.getElem?_eq_some_iff.mp e').1
        rw [H.ni]; omega
      subst hk'
      have e1 : (W.addIns x d).ia W.ni = x := if_pos rfl
      have e2 : (W.addIns x d).da W.ni = d := if_pos rfl
      rw [H.ni, List.getElem?_append_right (Nat.le_refl _), Nat.sub_self] at e'
      cases e'
      rw [e1, e2]
      exact ⟨es, m, gx, gd, hf.mono L⟩
  · obtain ⟨h1, h2, vs, m0, h3, h4⟩ := H.lstA g hg p hp
    exact ⟨h1, (ne (W.la p.1) (by rw [h2]; intro q; cases q)).trans h2, vs, m0, h3, h4.mono L⟩
end
end Mine

namespace Mine

section
variable {c : Cx} {n : Nat} {sx : Sx}

structure InitIs (c : Cx) (fa : Addr) (fd : FuncData) (body : List Stmt) (slf sysid : Str) : Prop where
  find : findIn c.K (.ref c.C) "__init__" = some (some (.ref fa))
  typ : typeIn c.K (.ref fa) = some (.type "function")
  at_ : ∃ oc od osl, c.K.lookup fa = some ⟨oc, od, .func fd, osl⟩
  bodyIs : fd.body = .stmts body
  code : codeIn c.K fd.code fd.qualname = true
  co : fd.scope.isCoroutine = false
  gen : fd.scope.isGenerator = false
  kind : fd.scope.kind = .function
  cell : ∀ x ∈ fd.scope.names, x.2 ≠ .cell
  bind1 : ∀ S x, peek c.K S (bindArgs fd ⟨[x], []⟩) = some [(slf, x), (sysid, .none)]
  bind2 : ∀ S x v, peek c.K S (bindArgs fd ⟨[x, v], []⟩) = some [(slf, x), (sysid, v)]
  k1 : fd.scope.names.lookup slf = some .local
  k2 : fd.scope.names.lookup sysid = some .local
  ne : slf ≠ sysid
  d1 : (slf == ("__debug__" : Str)) = false
  d2 : (sysid == ("__debug__" : Str)) = false
  shape : ∃ p1 p2 p3 p4 p5 p6 p7 p8 p9 p10 p11 p12 p13 p14 p15 p16 p17 p18 p19 p20 k2 k3 k4 k5, body = [
    .Assign [.Attribute (.Name slf p1) (fkey .sys) p2] (.Name sysid p3) p4,
    .Assign [.Attribute (.Name slf p5) (fkey .pub) p6] (.Constant .none k2 p7) p8,
    .Assign [.Attribute (.Name slf p9) (fkey .enc) p10] (.Constant .none k3 p11) p12,
    .Assign [.Attribute (.Name slf p13) (fkey .byt) p14] (.Constant .none k4 p15) p16,
    .Assign [.Attribute (.Name slf p17) (fkey .chr) p18] (.Constant .none k5 p19) p20]
noncomputable def InitAt (s1 : Shared) (d : Addr) (es : List DictEntry) (s : Shared) : Prop := ∃ h tk m, s = { s1 with heap := h, toks := tk } ∧ h.get? d = some (dictOf es m) ∧ Heap.SameBut d s1.heap h
theorem InitAt.step (C : Cls c) {A : Around} {E : Value → Shared → Prop} {s1 s : Shared} {x d : Addr} {env : Env} {m : Str → Option Value} {es : List DictEntry} {self : Str} {f : Fd} {value : Expr} {val : Value} {p1 p2 p3 : Pos} {Q : Flow → Shared → Prop}
    (X : c.K.In s1.heap) (hxd : x ≠ d) (hx : s1.heap.get? x = some (instObj c.C d)) (hK : c.K.lookup d = .none) (hk : env.scope.kind = .function) (hself : env.kindOf self = some .local) (hns : s1.heap.Ns env.locals m) (hL : env.locals ≠ d) (hm : m self = some (.ref x))
    (hd : (self == ("__debug__" : Str)) = false) (hsw : swapsWith value (some (.Attribute (.Name self p1) (fkey f) p2)) p3.line env = pure false)
    (J : InitAt s1 d es s) (hg : PySem.W.getL (fkey f) es = some .none) (hz : es.length ≤ 900)
    (hv : ∀ s, InitAt s1 d es s → ∀ Q' : Value → Shared → Prop, (∀ s', InitAt s1 d es s' → Q' val s') → wpAny (model c.prog c.w) A (eval value env) Q' E s)
    (h : ∀ hsh t s', InitAt s1 d (PySem.W.putL (fkey f) hsh (.str (fkey f) t) val es) s' → Q .next s') :
    wpAny (model c.prog c.w) A (exec (.Assign [.Attribute (.Name self p1) (fkey f) p2] value p3) env) Q E s := by
  refine plainObj_wpAny_Assign_Attribute (hv s J _ fun s2 J2 => ?_) hsw
  obtain ⟨h2, tk2, m2, rfl, hd2, hs2⟩ := J2
  refine wpAny_Name (wpAny_loadName_local hk hself (hns.sameBut hs2 hL) hm ?_) hd
  have X2 : c.K.In h2 := fun a o e => hs2.extBut a o (fun q => by rw [q, hK] at e; cases e) (X a o e)
  have I2 : InstAt h2 x (instObj c.C d) c.C (some (dictOf es m2)) := ⟨hs2.extBut _ _ hxd hx, rfl, rfl, hd2⟩
  have len : ∀ (hsh : Int) (key v : Value) (l : List DictEntry), (PySem.W.putL (fkey f) hsh key v l).length ≤ l.length + 1 := by
    intro hsh key v l
    induction l with
    | nil => simp [PySem.W.putL]
    | cons a r ih => simp only [PySem.W.putL]; split <;> simp <;> omega
  refine set_raw (s := { s1 with heap := h2, toks := tk2 }) C X2 I2 (C.fields f) (by rw [hg]; rfl) (Nat.le_trans (len ..) (by omega)) fun h' hd' hs' => ?_
  exact h _ _ _ ⟨h', _, _, rfl, hd', hs2.trans hs'⟩
theorem init_ok (G : Gd c) (C : Cls c) {fa : Addr} {fd : FuncData} {body : List Stmt} {self sysid : Str} (D : InitIs c fa fd body self sysid) {A : Around} (hr : A.depth < recursionLimit) {s : Shared} {x d : Addr} {args : List Value} {val : Value}
    (hargs : (args = [.ref x] ∧ val = .none) ∨ args = [.ref x, val]) (hkeep : ∀ a o, c.h0.get? a = some o → s.heap.get? a = some o) (hxd : x ≠ d) (hx : s.heap.get? x = some (instObj c.C d)) (hd : s.heap.get? d = some (dictOf [] 0)) (hd0 : c.h0.get? d = .none) {R : Result → Shared → Prop}
    (h : ∀ s' h1 t1 t2 t3 t4 t5 u1 u2 u3 u4 u5 m, s'.gens = s.gens → s'.os = s.os → (∀ b o, b ≠ d → s.heap.get? b = some o → s'.heap.get? b = some o) →
      s'.heap.get? d = some (dictOf [⟨h1, .str (fkey .sys) t1, val⟩, ⟨u1, .str (fkey .pub) t2, .none⟩, ⟨u2, .str (fkey .enc) t3, .none⟩, ⟨u3, .str (fkey .byt) t4, .none⟩, ⟨u4, .str (fkey .chr) t5, .none⟩] m) → u5 = 0 → R (.ok (.ret .none)) s') :
    codeAny (model c.prog c.w) A (.call (.ref fa) ⟨args, []⟩) R s := by
  obtain ⟨oc, od, osl, hK⟩ := D.at_
  have X : c.K.In s.heap := fun a o e => hkeep _ _ (G.inK a o e)
  have hKd : c.K.lookup d = .none := by
    cases e : c.K.lookup d with
    | none => rfl
    | some o => rw [G.inK _ _ e] at hd0; cases hd0
  have hb : BindsTo s fd ⟨args, []⟩ [(self, .ref x), (sysid, val)] := by
    rcases hargs with ⟨rfl, rfl⟩ | rfl
    · exact kp_binds X fun S => D.bind1 S _
    · exact kp_binds X fun S => D.bind2 S _ _
  refine codeAny_call_def hr (X _ _ hK) rfl (G.nolimit.keeps hkeep) (codeRec_of X D.code) D.bodyIs hb D.cell (fun y hy => ?_) (fun h1 hns hk1 => ?_) D.co D.gen D.kind
  · rcases List.mem_cons.mp hy with rfl | hy
    · exact D.k1
    · rcases List.mem_cons.mp hy with rfl | hy
      · exact D.k2
      · cases hy
  · obtain ⟨p1, p2, p3, p4, p5, p6, p7, p8, p9, p10, p11, p12, p13, p14, p15, p16, p17, p18, p19, p20, k2, k3, k4, k5, rfl⟩ := D.shape
    have m1 : ([(self, Value.ref x), (sysid, val)].reverse.lookup self) = some (.ref x) := by
      have : (self == sysid) = false := by simpa using D.ne
      simp [List.lookup_cons, this]
    have m2 : ([(self, Value.ref x), (sysid, val)].reverse.lookup sysid) = some val := by simp [List.lookup_cons]
    have hL : s.heap.objs.size ≠ d := fun q => Nat.lt_irrefl _ (q ▸ Heap.lt_size hd)
    let s1 : Shared := { s with heap := h1, toks := s.toks + 2 }
    have X1 : c.K.In s1.heap := fun a o e => hk1 _ _ (X a o e)
    have J0 : InitAt s1 d [] s1 := ⟨h1, _, 0, rfl, hk1 _ _ hd, Heap.SameBut.refl ..⟩
    have st : ∀ (f : Fd) (value : Expr) (v : Value) (q1 q2 q3 : Pos) (es : List DictEntry) (s2 : Shared) (Q : Flow → Shared → Prop), InitAt s1 d es s2 → PySem.W.getL (fkey f) es = some .none → es.length ≤ 900 →
        (swapsWith value (some (.Attribute (.Name self q1) (fkey f) q2)) q3.line (callEnv fd s.heap.objs.size fa) = pure false) →
        (∀ s3, InitAt s1 d es s3 → ∀ Q' : Value → Shared → Prop, (∀ s', InitAt s1 d es s' → Q' v s') → wpAny (model c.prog c.w) (A.deeper (callEnv fd s.heap.objs.size fa)) (eval value (callEnv fd s.heap.objs.size fa)) Q' (fun _ _ => False) s3) →
        (∀ hsh t s', InitAt s1 d (PySem.W.putL (fkey f) hsh (.str (fkey f) t) v es) s' → Q .next s') →
        wpAny (model c.prog c.w) (A.deeper (callEnv fd s.heap.objs.size fa)) (exec (.Assign [.Attribute (.Name self q1) (fkey f) q2] value q3) (callEnv fd s.heap.objs.size fa)) Q (fun _ _ => False) s2 :=
      fun f value v q1 q2 q3 es s2 Q J hg hz hsw hv hq => InitAt.step (env := callEnv fd s.heap.objs.size fa) C X1 hxd (hk1 _ _ hx) hKd D.kind D.k1 hns hL m1 D.d1 hsw J hg hz hv hq
    have none_v : ∀ (k : Nat) (q : Pos) (es : List DictEntry) (s3 : Shared), InitAt s1 d es s3 → ∀ Q' : Value → Shared → Prop, (∀ s', InitAt s1 d es s' → Q' .none s') → wpAny (model c.prog c.w) (A.deeper (callEnv fd s.heap.objs.size fa)) (eval (.Constant .none k q) (callEnv fd s.heap.objs.size fa)) Q' (fun _ _ => False) s3 :=
      fun k q es s3 J Q' hq => wpAny_Constant_none (hq s3 J)
    refine wpAny_noRaise ?_
    refine wpAny_execs_cons (st .sys _ val _ _ _ [] s1 _ J0 rfl (by decide) rfl (fun s3 J Q' hq => ?_) fun g1 t1 s2 J2 => ?_)
    · obtain ⟨h3, tk3, m3, rfl, e1, e2⟩ := J
      exact wpAny_Name (wpAny_loadName_local (env := callEnv fd s.heap.objs.size fa) D.kind D.k2 (hns.sameBut e2 hL) m2 (hq _ ⟨h3, tk3, m3, rfl, e1, e2⟩)) D.d2
    dsimp only
    refine wpAny_execs_cons (st .pub _ .none _ _ _ _ s2 _ J2 (by simp only [PySem.W.getL, PySem.W.putL, Value.isStr, fkey_is]; rfl) (by simp [PySem.W.putL]) rfl (none_v _ _ _) fun g2 t2 s3 J3 => ?_)
    dsimp only
    refine wpAny_execs_cons (st .enc _ .none _ _ _ _ s3 _ J3 (by simp only [PySem.W.getL, PySem.W.putL, Value.isStr, fkey_is]; rfl) (by simp only [PySem.W.putL, Value.isStr, fkey_is]; first | (show 2 ≤ 900; decide) | (show 3 ≤ 900; decide) | (show 4 ≤ 900; decide)) rfl (none_v _ _ _) fun g3 t3 s4 J4 => ?_)
    dsimp only
    refine wpAny_execs_cons (st .byt _ .none _ _ _ _ s4 _ J4 (by simp only [PySem.W.getL, PySem.W.putL, Value.isStr, fkey_is]; rfl) (by simp only [PySem.W.putL, Value.isStr, fkey_is]; first | (show 2 ≤ 900; decide) | (show 3 ≤ 900; decide) | (show 4 ≤ 900; decide)) rfl (none_v _ _ _) fun g4 t4 s5 J5 => ?_)
    dsimp only
    refine wpAny_execs_cons (st .chr _ .none _ _ _ _ s5 _ J5 (by simp only [PySem.W.getL, PySem.W.putL, Value.isStr, fkey_is]; rfl) (by simp only [PySem.W.putL, Value.isStr, fkey_is]; first | (show 2 ≤ 900; decide) | (show 3 ≤ 900; decide) | (show 4 ≤ 900; decide)) rfl (none_v _ _ _) fun g5 t5 s6 J6 => ?_)
    dsimp only
    refine wpAny_execs_nil ?_
    simp only [PySem.W.putL, Value.isStr, fkey_is] at J6
    obtain ⟨h6, tk6, m6, rfl, e1, e2⟩ := J6
    exact h _ g1 t1 t2 t3 t4 t5 g2 g3 g4 g5 0 m6 rfl rfl (fun b o hb e => e2.extBut b o hb (hk1 b o e)) e1 rfl
theorem new_ok (G : Gd c) (C : Cls c) {fa : Addr} {fd : FuncData} {body : List Stmt} {self sysid : Str} (D : InitIs c fa fd body self sysid) : OkCall c (n + 1) (.ref c.C) newM := by
  intro p hr W0 vs xs hv W st s hle I b st' e Q E hQ
  have X := I.hr.inK G
  obtain ⟨hh, g, dr, t, os⟩ := s
  have hv' := hv.mono hle
  have main : ∀ (args : List Value) (val : Value) (v : AV), args = vs → VR W val v → (∀ y : Addr, (Value.ref y :: args = [.ref y] ∧ val = .none) ∨ Value.ref y :: args = [.ref y, val]) → some (AV.ins st.ins.length, { st with ins := st.ins ++ [blank v] }) = some (b, st') →
      wpAny (model c.prog c.w) p.A (call (.ref c.C) vs) Q E ⟨hh, g, dr, t, os⟩ := by
    intro args val v hargs hval hsh e'
    cases e'
    subst hargs
    refine wpAny_call (make_core (makes_of X C.makes) (looks_findIn X D.find) (fun self => bind_fn X self D.typ) (.inl rfl) ?_)
    have nd : hh.get? hh.objs.size = .none := get_none_of_ge (Nat.le_refl _)
    have nx : hh.get? (hh.objs.size + 1) = .none := get_none_of_ge (Nat.le_succ _)
    have hk : ∀ b o, hh.get? b = some o → ((hh.push emptyDict).push (instObj c.C hh.objs.size)).get? b = some o := fun b o e => Heap.get?_push_of_some _ (Heap.get?_push_of_some _ e)
    have gx : ((hh.push emptyDict).push (instObj c.C hh.objs.size)).get? (hh.objs.size + 1) = some (instObj c.C hh.objs.size) := by
      have := Heap.get?_push_size (hh.push emptyDict) (o := instObj c.C hh.objs.size) rfl
      rwa [Heap.size_push] at this
    have gd : ((hh.push emptyDict).push (instObj c.C hh.objs.size)).get? hh.objs.size = some (dictOf [] 0) := Heap.get?_push_of_some _ (Heap.get?_push_size _ rfl)
    refine init_ok G C D (by rw [depth_under_make]; have := hr.2.1; unfold recursionLimit; omega) (x := hh.objs.size + 1) (d := hh.objs.size) (val := val) (hsh _) (fun a o q => hk a o (I.hr.keep a o q)) (Nat.ne_of_gt (Nat.lt_succ_self _)) gx gd (I.hr.base_none nd) ?_
    intro s' h1 t1 t2 t3 t4 t5 u1 u2 u3 u4 u5 m hg ho hkeep hd _
    refine ⟨rfl, ?_⟩
    have kk : ∀ b o, hh.get? b = some o → s'.heap.get? b = some o := fun b o q => hkeep b o (fun z => by rw [z, nd] at q; cases q) (hk b o q)
    have rx := I.hr.oth_of_none nx
    have rd := I.hr.oth_of_none nd
    have I' : Inv c p W st s' := I.keeps kk
    have hf : FieldsAre W _ (blank v) := FieldsAre.mk (h1 := h1) (h2 := u1) (h3 := u2) (h4 := u3) (h5 := u4) (t1 := t1) (t2 := t2) (t3 := t3) (t4 := t4) (t5 := t5) (i := blank v) hval .none .none .none .none
    have H := I'.hr.addIns (x := hh.objs.size + 1) (d := hh.objs.size) (Nat.ne_of_gt (Nat.lt_succ_self _)) rx rd (I.hr.base_none nx) (I.hr.base_none nd) (hkeep _ _ (Nat.ne_of_gt (Nat.lt_succ_self _)) gx) hd hf
    have hlocne : ∀ a, (∃ o, hh.get? a = some o) → (W.addIns (hh.objs.size + 1) hh.objs.size).role a = W.role a := fun a ⟨o, q⟩ => Wd.addIns_other (fun z => by rw [z, nx] at q; cases q) (fun z => by rw [z, nd] at q; cases q)
    refine hQ (W.addIns (hh.objs.size + 1) hh.objs.size) _ s' ⟨Le.addIns rx rd, fun a o q => ⟨o, kk a o q⟩, fun a o q z => (hlocne a ⟨o, q⟩).trans z, fun a o _ _ q => kk a o q, hg, ho⟩ ⟨H, I'.fr.mono (Le.addIns rx rd) ?_ ?_⟩ ?_
    · obtain ⟨ml, ⟨o, es, ep, q, _⟩, _⟩ := I.fr.ns
      exact (hlocne _ ⟨o, q⟩).trans I.fr.roleL
    · intro y a q
      obtain ⟨v', o, z, _⟩ := I.fr.cells y a q
      exact (hlocne _ ⟨o, z⟩).trans (I.fr.roleC y a q).1
    · have e1 : (W.addIns (hh.objs.size + 1) hh.objs.size).ia st.ins.length = hh.objs.size + 1 := by rw [← I.hr.ni]; exact if_pos rfl
      have := VR.ins (W := W.addIns (hh.objs.size + 1) hh.objs.size) st.ins.length (by rw [← I.hr.ni]; exact Nat.lt_succ_self _)
      rwa [e1] at this
  unfold newM at e
  split at e
  · cases hv'; exact main [] .none .none rfl .none (fun y => .inl ⟨rfl, rfl⟩) e
  · rename_i v
    cases hv' with
    | cons h1 h2 => cases h2; exact main [_] _ _ rfl h1 (fun y => .inr rfl) e
  · cases e
theorem ImplE.new (G : Gd c) (C : Cls c) {fa : Addr} {fd : FuncData} {body : List Stmt} {self sysid : Str} (D : InitIs c fa fd body self sysid) {x : Str} {p0 pos : Pos} {es : List Expr} {fs : Cm (List AV)} (hx : sx.sc.names.lookup x = some .globalImplicit) (hg : c.Glob x (.ref c.C))
    (h1 : ImplEs c (n + 1) sx es fs) (hd : (x == ("__debug__" : Str)) = false := by decide) (hp : es.all plainX = true := by rfl) : ImplE c (n + 1) sx (.Call (.Name x p0) es [] pos) (bd fs newM) := by
  intro p hsx hr W0 W st s hle I b st' e Q E hQ
  obtain ⟨xs, st1, e1, e2⟩ := bd_some e
  refine Call_ (load_glob G I (by rw [hsx]; exact hx) hg hd ?_)
  have fin : ∀ W1 vs s1, Ext p.Own W s W1 s1 → Inv c p W1 st1 s1 → VRs W1 vs xs → wpAny (model c.prog c.w) p.A (call (.ref c.C) vs) Q E s1 := fun W1 vs s1 x1 I1 r1 =>
    new_ok G C D p hr W1 vs xs r1 W1 st1 s1 (Le.refl _) I1 b st' e2 Q E fun W2 v s2 x2 I2 r2 => hQ W2 v s2 (x1.trans x2) I2 r2
  cases es with
  | nil =>
    have h := h1 p hsx hr W pos W st s (Le.refl _) I xs st1 e1
    refine callWith_K0 (I.hr.inK G) C.keep ?_
    have h' := h (fun vs s1 => vs = [] ∧ s1 = s → wpAny (model c.prog c.w) p.A (call (.ref c.C) ([] ++ [])) Q E s) (fun _ _ => False) (fun W1 vs s1 x1 I1 r1 hh => by obtain ⟨h1, h2⟩ := hh; subst h1; rw [h2] at x1 I1; exact fin W1 [] s x1 I1 r1)
    intro Γ pp hΓ
    exact (h' Γ pp hΓ) ⟨rfl, rfl⟩ Γ pp hΓ
  | cons e0 r0 =>
    have he : plainX e0 = true := (Bool.and_eq_true_iff.mp (List.all_cons ▸ hp)).1
    refine callWith_K (G.inK) C.keep (h1 p hsx hr W pos W st s (Le.refl _) I xs st1 e1 _ E fun W1 vs s1 x1 I1 r1 => ⟨I1.hr.inK G, ?_⟩) (star_plain he) (any_false (Bool.and_eq_true_iff.mp (List.all_cons ▸ hp)).2)
    exact fin W1 vs s1 x1 I1 r1
end
end Mine

namespace Mine

theorem lookL_none {k : Nat} : ∀ {g : List (Nat × List AV)}, lookL k g = .none → ∀ p ∈ g, p.1 ≠ k
  | [], _, _, h => by cases h
  | (j, xs) :: r, h, p, hp => by
    simp only [lookL] at h
    split at h
    · cases h
    · rename_i q
      rcases List.mem_cons.mp hp with rfl | hp
      · exact fun e => q e.symm
      · exact lookL_none h p hp
theorem getL1_mem {k : Nat} {xs : List AV} : ∀ {l : LH}, getL1 k l = some xs → ∃ g ∈ l, (k, xs) ∈ g
  | [], h => by cases h
  | g :: r, h => by
    simp only [getL1] at h
    split at h
    · rename_i ys e; cases h; exact ⟨g, List.mem_cons_self, lookL_mem e⟩
    · obtain ⟨g', h1, h2⟩ := getL1_mem h; exact ⟨g', List.mem_cons_of_mem _ h1, h2⟩
theorem putSeg_fst {k : Nat} {ys : List AV} : ∀ g : List (Nat × List AV), (putSeg k ys g).map (·.1) = g.map (·.1)
  | [] => rfl
  | (j, xs) :: r => by
    simp only [putSeg]
    split
    · rfl
    · rw [List.map_cons, List.map_cons, putSeg_fst r]
theorem putL1_fst {k : Nat} {ys : List AV} : ∀ l : LH, (putL1 k ys l).flatten.map (·.1) = l.flatten.map (·.1)
  | [] => rfl
  | g :: r => by
    simp only [putL1]
    split
    · rw [List.flatten_cons, List.flatten_cons, List.map_append, List.map_append, putSeg_fst]
    · rw [List.flatten_cons, List.flatten_cons, List.map_append, List.map_append, putL1_fst r]
theorem putSeg_mem {k : Nat} {ys : List AV} {p : Nat × List AV} : ∀ {g : List (Nat × List AV)}, (g.map (·.1)).Nodup → p ∈ putSeg k ys g → p = (k, ys) ∨ (p ∈ g ∧ p.1 ≠ k)
  | [], _, h => by cases h
  | (j, xs) :: r, nd, h => by
    rw [List.map_cons, List.nodup_cons] at nd
    simp only [putSeg] at h
    split at h
    · rename_i q
      subst q
      rcases List.mem_cons.mp h with h | h
      · exact .inl h
      · exact .inr ⟨List.mem_cons_of_mem _ h, fun e => nd.1 (e ▸ List.mem_map.mpr ⟨p, h, rfl⟩)⟩
    · rename_i q
      rcases List.mem_cons.mp h with h | h
      · subst h; exact .inr ⟨List.mem_cons_self, fun e => q e.symm⟩
      · rcases putSeg_mem nd.2 h with h | ⟨h1, h2⟩
        · exact .inl h
        · exact .inr ⟨List.mem_cons_of_mem _ h1, h2⟩
theorem putL1_mem {k : Nat} {ys : List AV} {p : Nat × List AV} : ∀ {l : LH}, (l.flatten.map (·.1)).Nodup → p ∈ (putL1 k ys l).flatten → p = (k, ys) ∨ (p ∈ l.flatten ∧ p.1 ≠ k)
  | [], _, h => by cases h
  | g :: r, nd, h => by
    rw [List.flatten_cons, List.map_append, List.nodup_append] at nd
    simp only [putL1] at h
    split at h
    · rename_i zs hz
      rw [List.flatten_cons, List.mem_append] at h
      rcases h with h | h
      · rcases putSeg_mem nd.1 h with h | ⟨h1, h2⟩
        · exact .inl h
        · exact .inr ⟨by rw [List.flatten_cons, List.mem_append]; exact .inl h1, h2⟩
      · exact .inr ⟨by rw [List.flatten_cons, List.mem_append]; exact .inr h, fun e => nd.2.2 k (List.mem_map.mpr ⟨_, lookL_mem hz, rfl⟩) p.1 (List.mem_map.mpr ⟨p, h, rfl⟩) e.symm⟩
    · rename_i hz
      rw [List.flatten_cons, List.mem_append] at h
      rcases h with h | h
      · exact .inr ⟨by rw [List.flatten_cons, List.mem_append]; exact .inl h, lookL_none hz p h⟩
      · rcases putL1_mem nd.2.1 h with h | ⟨h1, h2⟩
        · exact .inl h
        · exact .inr ⟨by rw [List.flatten_cons, List.mem_append]; exact .inr h1, h2⟩
theorem pushL1_mem {k : Nat} {xs : List AV} {p : Nat × List AV} : ∀ {l : LH}, p ∈ (pushL1 k xs l).flatten → p = (k, xs) ∨ p ∈ l.flatten
  | [], h => by simp [pushL1] at h; exact .inl h
  | g :: r, h => by
    simp only [pushL1, List.flatten_cons, List.cons_append, List.mem_cons, List.mem_append] at h ⊢
    exact h
theorem pushL1_fst {k : Nat} {xs : List AV} : ∀ l : LH, (pushL1 k xs l).flatten.map (·.1) = k :: l.flatten.map (·.1)
  | [] => rfl
  | g :: r => by simp only [pushL1, List.flatten_cons, List.cons_append, List.map_cons]
section
variable {c : Cx} {n : Nat} {sx : Sx}

theorem HR.lstA' {W : Wd} {st : AS} {h : Heap} (H : HR c W st h) {p : Nat × List AV} (hp : p ∈ st.lst.flatten) : p.1 < W.nl ∧ W.role (W.la p.1) = .lob p.1 ∧ ∃ vs n, h.get? (W.la p.1) = some (listOf vs.toArray n) ∧ VRs W vs p.2 := by
  obtain ⟨g, hg, hp⟩ := List.mem_flatten.mp hp
  exact H.lstA g hg p hp
theorem HR.lobAt {W : Wd} {st : AS} {h : Heap} (H : HR c W st h) {k : Nat} {xs : List AV} (e : getL1 k st.lst = some xs) : k < W.nl ∧ W.role (W.la k) = .lob k ∧ ∃ vs n, h.get? (W.la k) = some (listOf vs.toArray n) ∧ VRs W vs xs := by
  obtain ⟨g, hg, hp⟩ := getL1_mem e
  exact H.lstA g hg _ hp
theorem HR.updLob {W : Wd} {st : AS} {h h' : Heap} {k m : Nat} {xs ys : List AV} {vs : List Value} (H : HR c W st h) (e : getL1 k st.lst = some xs) (hd : h'.get? (W.la k) = some (listOf vs.toArray m)) (hs : Heap.SameBut (W.la k) h h') (hv : VRs W vs ys) :
    HR c W { st with lst := putL1 k ys st.lst } h' := by
  obtain ⟨r0, r2, _⟩ := H.lobAt e
  have hm : W.Mut (W.la k) := by unfold Wd.Mut; rw [r2]; trivial
  have kp : ∀ a o, a ≠ W.la k → h.get? a = some o → h'.get? a = some o := fun a o ha e => hs.extBut a o ha e
  refine ⟨fun a o e => kp a o (fun q => ?_) (H.keep a o e), H.mutA, fun a => ?_, fun a o e => kp a o (fun q => ?_) (H.frz a o e), H.ni, H.nl, H.iaR, fun j y e => ?_, fun g hg p hp => ?_, ?_⟩
  · rw [q, H.mutA _ hm] at e; cases e
  · rcases Classical.em (a = W.la k) with q | q
    · subst q; exact .inr ⟨_, hd⟩
    · exact (H.lt a).imp id fun ⟨o, z⟩ => ⟨o, kp a o q z⟩
  · rw [q, r2] at e; cases e
  · obtain ⟨es0, m0, e1, e2, r⟩ := H.insA j y e
    have hj : j < W.ni := by rw [H.ni]; exact (List.getElem?_eq_some_iff.mp e).1
    obtain ⟨s1, s2⟩ := H.iaR j hj
    exact ⟨es0, m0, kp _ _ (fun q => by rw [q, r2] at s1; cases s1) e1, kp _ _ (fun q => by rw [q, r2] at s2; cases s2) e2, r⟩
  · rcases putL1_mem H.nodup (List.mem_flatten.mpr ⟨g, hg, hp⟩) with q | ⟨q1, q2⟩
    · subst q; exact ⟨r0, r2, vs, m, hd, hv⟩
    · obtain ⟨h1, h2, us, m0, h3, h4⟩ := H.lstA' q1
      exact ⟨h1, h2, us, m0, kp _ _ (fun z => by rw [z, r2] at h2; cases h2; exact q2 rfl) h3, h4⟩
  · show ((putL1 k ys st.lst).flatten.map (·.1)).Nodup
    rw [putL1_fst]; exact H.nodup
theorem lob_change {p : Pl} {W : Wd} {st : AS} {s : Shared} {h' : Heap} {k m tk : Nat} {xs ys : List AV} {vs : List Value} (I : Inv c p W st s) (e : getL1 k st.lst = some xs) (hd : h'.get? (W.la k) = some (listOf vs.toArray m)) (hs : Heap.SameBut (W.la k) s.heap h') (hv : VRs W vs ys) :
    Inv c p W { st with lst := putL1 k ys st.lst } { s with heap := h', toks := tk } ∧ Ext p.Own W s W { s with heap := h', toks := tk } := by
  obtain ⟨_, r2, _⟩ := I.hr.lobAt e
  have hm : W.Mut (W.la k) := by unfold Wd.Mut; rw [r2]; trivial
  exact ⟨⟨I.hr.updLob e hd hs hv, I.fr.change hm hs⟩, Ext.change hm hs ⟨_, hd⟩⟩
noncomputable def Wd.addLob (W : Wd) (a : Addr) : Wd :=
  { W with role := fun b => if b = a then .lob W.nl else W.role b, la := fun k => if k = W.nl then a else W.la k, nl := W.nl + 1 }
theorem Le.addLob {W : Wd} {a : Addr} (h : W.role a = .oth) : Le W (W.addLob a) where
  ni := Nat.le_refl _
  nl := Nat.le_succ _
  ia := fun _ _ => rfl
  da := fun _ _ => rfl
  la := fun k hk => if_neg (Nat.ne_of_lt hk)
  frz := fun b o e => by
    show (if b = a then Role.lob W.nl else W.role b) = _
    rw [if_neg]; exact e
    intro q; rw [q, h] at e; cases e
theorem HR.addLob {W : Wd} {st : AS} {h : Heap} {a : Addr} {vs : List Value} {m : Nat} {xs : List AV} (H : HR c W st h) (hr : W.role a = .oth) (hb : c.h0.get? a = .none) (ha : h.get? a = some (listOf vs.toArray m)) (hv : VRs W vs xs) :
    HR c (W.addLob a) { st with lst := pushL1 st.nl xs st.lst, nl := st.nl + 1 } h := by
  have L := Le.addLob hr
  have ne : ∀ b, W.role b ≠ .oth → (W.addLob a).role b = W.role b := fun b hb => if_neg (show b ≠ a from fun q => hb (q ▸ hr))
  have rs : (W.addLob a).role a = .lob W.nl := if_pos rfl
  have ot : ∀ b, b ≠ a → (W.addLob a).role b = W.role b := fun b hb => if_neg hb
  refine ⟨H.keep, fun b hm => ?_, fun b => ?_, fun b o e => ?_, H.ni, congrArg (· + 1) H.nl, fun k hk => ?_, fun k i e => ?_, fun g hg p hp => ?_, ?_⟩
  · by_cases q : b = a
    · rw [q]; exact hb
    · refine H.mutA b ?_; unfold Wd.Mut at hm ⊢; rwa [ot b q] at hm
  · by_cases q : b = a
    · rw [q]; exact .inr ⟨_, ha⟩
    · rw [ot b q]; exact H.lt b
  · by_cases q : b = a
    · rw [q, rs] at e; cases e
    · rw [ot b q] at e; exact H.frz b o e
  · obtain ⟨r1, r2⟩ := H.iaR k hk
    exact ⟨(ne (W.ia k) (by rw [r1]; intro q; cases q)).trans r1, (ne (W.da k) (by rw [r2]; intro q; cases q)).trans r2⟩
  · obtain ⟨es, m0, e1, e2, r⟩ := H.insA k i e
    exact ⟨es, m0, e1, e2, r.mono L⟩
  · rcases pushL1_mem (List.mem_flatten.mpr ⟨g, hg, hp⟩) with q | q
    · subst q
      have e1 : (W.addLob a).la st.nl = a := by rw [← H.nl]; exact if_pos rfl
      rw [e1]
      refine ⟨?_, ?_, vs, m, ha, hv.mono L⟩
      · show st.nl < W.nl + 1; rw [H.nl]; exact Nat.lt_succ_self _
      · rw [rs, H.nl]
    · obtain ⟨h1, h2, us, m0, h3, h4⟩ := H.lstA' q
      have e1 : (W.addLob a).la p.1 = W.la p.1 := L.la _ h1
      rw [e1]
      exact ⟨Nat.lt_succ_of_lt h1, (ne _ (by rw [h2]; intro q; cases q)).trans h2, us, m0, h3, h4.mono L⟩
  · show ((pushL1 st.nl xs st.lst).flatten.map (·.1)).Nodup
    rw [pushL1_fst, List.nodup_cons]
    refine ⟨fun hm => ?_, H.nodup⟩
    obtain ⟨p, hp, e⟩ := List.mem_map.mp hm
    have := (H.lstA' hp).1
    rw [e, H.nl] at this
    exact Nat.lt_irrefl _ this
noncomputable def newLob (xs : List AV) : Cm AV := fun st => if xs.length ≤ 100000 then some (.lob st.nl, { st with lst := pushL1 st.nl xs st.lst, nl := st.nl + 1 }) else .none
theorem Inv.toLob {p : Pl} {W : Wd} {st : AS} {s s' : Shared} {a : Addr} {vs : List Value} {m : Nat} {xs : List AV} (I : Inv c p W st s) (hn : s.heap.get? a = .none) (k : ∀ b o, s.heap.get? b = some o → s'.heap.get? b = some o)
    (ha : s'.heap.get? a = some (listOf vs.toArray m)) (hv : VRs W vs xs) (hg : s'.gens = s.gens) (ho : s'.os = s.os) :
    Inv c p (W.addLob a) { st with lst := pushL1 st.nl xs st.lst, nl := st.nl + 1 } s' ∧ Ext p.Own W s (W.addLob a) s' ∧ VR (W.addLob a) (.ref a) (.lob st.nl) := by
  have hr := I.hr.oth_of_none hn
  have I' : Inv c p W st s' := I.keeps k
  have ot : ∀ b o, s.heap.get? b = some o → (W.addLob a).role b = W.role b := fun b o e => if_neg (show b ≠ a from fun q => by rw [q, hn] at e; cases e)
  refine ⟨⟨I'.hr.addLob hr (I.hr.base_none hn) ha hv, I'.fr.mono (Le.addLob hr) ?_ fun y b q => ?_⟩, ⟨Le.addLob hr, fun b o e => ⟨o, k b o e⟩, fun b o e z => (ot b o e).trans z, fun b o _ _ e => k b o e, hg, ho⟩, ?_⟩
  · obtain ⟨ml, ⟨o, es, ep, q, _⟩, _⟩ := I.fr.ns
    exact (ot _ o q).trans I.fr.roleL
  · obtain ⟨v', o, z, _⟩ := I.fr.cells y b q
    exact (ot _ o z).trans (I.fr.roleC y b q).1
  · have e1 : (W.addLob a).la st.nl = a := by rw [← I.hr.nl]; exact if_pos rfl
    have := VR.lob (W := W.addLob a) st.nl (by show st.nl < W.nl + 1; rw [I.hr.nl]; exact Nat.lt_succ_self _)
    rwa [e1] at this
theorem newLob_ok {p : Pl} {W0 : Wd} {vs : List Value} {xs : List AV} (h : VRs W0 vs xs) : Ok c p W0 (PySem.newList vs) VR (newLob xs) := by
  intro W st s hle I b st' e Q E hQ
  unfold newLob at e
  split at e
  · rename_i hsz
    cases e
    have hl := h.length
    refine wpAny_newObj_type ?_ (by show vs.toArray.size ≤ sizeLine; rw [List.size_toArray, sizeLine_eq]; omega)
    obtain ⟨I', x, r⟩ := I.toLob (s' := { s with heap := s.heap.push (listOf vs.toArray 0) }) (a := s.heap.objs.size) (get_none_of_ge (Nat.le_refl _)) (fun _ _ e => Heap.get?_push_of_some _ e) (Heap.get?_push_size _ rfl) (h.mono hle) rfl rfl
    exact hQ _ _ _ x I' r
  · cases e
theorem ImplE.listMut {es : List Expr} {pos : Pos} {f : Cm (List AV)} (h : ImplEs c n sx es f) : ImplE c n sx (.List es pos) (bd f newLob) := by
  intro p hsx hr W0 W st s hle I b st' e Q E hQ
  obtain ⟨xs, st1, e1, e2⟩ := bd_some e
  refine List_ (h p hsx hr W pos W st s (Le.refl _) I xs st1 e1 _ E fun W1 vs s1 x1 I1 r1 => ?_)
  exact newLob_ok r1 W1 st1 s1 (Le.refl _) I1 b st' e2 Q E fun W2 v s2 x2 I2 r2 => hQ W2 v s2 (x1.trans x2) I2 r2
noncomputable def itemsM : AV → Cm (List AV) := fun x st => match x with
  | .lst xs => some (xs, st)
  | .lob k => (match getL1 k st.lst with | some xs => some (xs, st) | .none => .none)
  | _ => .none
theorem items_at {p : Pl} {W : Wd} {st st' : AS} {s : Shared} (I : Inv c p W st s) {v : Value} {x : AV} {xs : List AV} (hv : VR W v x) (e : itemsM x st = some (xs, st')) :
    st' = st ∧ ∃ a vs m, v = .ref a ∧ s.heap.get? a = some (listOf vs.toArray m) ∧ VRs W vs xs := by
  cases hv with
  | lst h r => simp only [itemsM] at e; cases e; exact ⟨rfl, _, _, _, rfl, I.hr.frz _ _ h, r⟩
  | lob k hk =>
    simp only [itemsM] at e
    split at e
    · rename_i ys hy
      cases e
      obtain ⟨_, _, vs, m, h3, h4⟩ := I.hr.lobAt hy
      exact ⟨rfl, _, vs, m, rfl, h3, h4⟩
    · cases e
  | _ => simp only [itemsM] at e; cases e
end
end Mine

namespace Mine

section
variable {c : Cx} {n : Nat} {sx : Sx}

noncomputable def chkL (x : AV) : Cm Unit := fun st => match itemsM x st with
  | some _ => some ((), st)
  | .none => .none
noncomputable def OkMeth (c : Cx) (n : Nat) (id : String) (F : AV → List AV → Cm AV) : Prop := ∀ p : Pl, Room n p.A → ∀ W0 o x vs xs, VR W0 o x → VRs W0 vs xs → Ok c p W0 (call (.builtin id) (o :: vs)) VR (F x xs)
noncomputable def lmethM (fo : Cm AV) (fs : Cm (List AV)) (F : AV → List AV → Cm AV) : Cm AV := bd fo fun x => bd (chkL x) fun _ => bd fs fun ys => F x ys
theorem ImplE.lmeth {o : Expr} {m : Str} {id : String} {apos pos : Pos} {es : List Expr} {fo : Cm AV} {fs : Cm (List AV)} {F : AV → List AV → Cm AV} (slot : Slot "list" m id) (hty : typeOf (.builtin id) = pure (.type "method_descriptor"))
    (h0 : ImplE c n sx o fo) (h1 : ImplEs c n sx es fs) (h2 : OkMeth c n id F)
    (hb : ∀ env t, attributeBase o m env t = t := by intro _ _; rfl) (hp : es.all plainX = true := by rfl) (hl : (apos.endLine == pos.line) = true := by rfl) (hfew : decide (es.length < 30) = true := by rfl) :
    ImplE c n sx (.Call (.Attribute o m apos) es [] pos) (lmethM fo fs F) := by
  intro p hsx hr W0 W st s hle I b st' e Q E hQ
  obtain ⟨x, st1, e1, e2⟩ := bd_some e
  obtain ⟨u, st1', e3, e4⟩ := bd_some e2
  obtain ⟨ys, st2, e5, e6⟩ := bd_some e4
  rw [arm_eval_Call, hb]
  refine wpAny_bind (h0 p hsx hr W W st s (Le.refl _) I x st1 e1 _ E fun W1 ov s1 x1 I1 r1 => wpAny_bind (wpAny_standAt ?_))
  unfold chkL at e3
  split at e3
  · rename_i xs q
    cases e3
    obtain ⟨xs, st9⟩ := xs
    obtain ⟨_, a, vs, m0, rfl, ho, _⟩ := items_at I1 r1 q
    have hform : methodCallForm (es.length + ([] : List Keyword).length) (backTo pos (starEach es p.env)) (backToKw pos (keywordEach [] p.env)) = true := by
      unfold methodCallForm
      have h1 : (backTo pos (starEach es p.env)).all (fun x => !x.1) = true := by
        have := any_false (env := p.env) (pos := pos) hp
        rw [List.all_eq_not_any_not]; simpa using this
      rw [h1]
      show (true && true && decide (es.length + 0 + 0 < 30)) = true
      simpa using hfew
    have hpos : methodCallPos true o p.env apos pos = pure pos := by unfold methodCallPos; simp [hl]
    unfold methodCall
    rw [hform]
    refine wpAny_bind (wpAny_holding ?_)
    show wpAny _ _ (getMethod (.ref a) m _) _ _ _
    refine getMethod_builtin ⟨_, ho, rfl⟩ PySem.F.plainAttrs_list slot hty (fun a' e => by cases e; exact ⟨_, ho, rfl⟩) ?_
    refine wpAny_bind (wpAny_of_eq hpos ?_)
    refine Calls.callWith_builtin (any_false hp) (evalArgs_row hp ?_)
    refine h1 p hsx hr W1 pos W1 st1 s1 (Le.refl _) I1 ys st2 e5 _ E fun W2 ws s2 x2 I2 r2 => ?_
    exact h2 p hr W2 _ _ _ _ (r1.mono x2.le) r2 W2 st2 s2 (Le.refl _) I2 b st' e6 Q E fun W3 v s3 x3 I3 r3 => hQ W3 v s3 ((x1.trans x2).trans x3) I3 r3
  · cases e3
theorem upd_list {h : Heap} {a : Addr} {its : Array Value} {k : Nat} {f : Array Value → Array Value} (e : h.get? a = some (listOf its k)) : ∃ m, (h.update a (Obj.mapSeq f)).get? a = some (listOf (f its) m) :=
  ⟨_, Heap.get?_update_self _ e rfl⟩
noncomputable def appendM : AV → List AV → Cm AV := fun x ys st => match x, ys with
  | .lob k, [y] => (match getL1 k st.lst with
      | some xs => if xs.length ≤ 100000 then some (.none, { st with lst := putL1 k (xs ++ [y]) st.lst }) else .none
      | .none => .none)
  | _, _ => .none
theorem append_ok : OkMeth c n "list.append" appendM := by
  intro p hr W0 o x vs xs ho hvs W st s hle I b st' e Q E hQ
  cases ho.mono hle with
  | lob k hk =>
    cases hvs.mono hle with
    | nil => cases e
    | cons hy hr' =>
      cases hr' with
      | cons _ _ => cases e
      | nil =>
        simp only [appendM] at e
        split at e
        · rename_i zs hz
          split at e
          · rename_i hsz
            cases e
            obtain ⟨_, _, us, m, h3, h4⟩ := I.hr.lobAt hz
            have hl := h4.length
            refine call_meets PySem.F.slot_list_append ⟨_, h3, rfl⟩ PySem.F.entry_list_append (PySem.F.args_list_append_2 _ _) (list_append _ us.toArray m _ (by rw [List.size_toArray, sizeLine_eq]; omega)) ⟨h3, ?_⟩
            obtain ⟨m', e'⟩ := upd_list (f := fun z => z.push _) h3
            rw [List.push_toArray] at e'
            obtain ⟨I', x'⟩ := lob_change (tk := s.toks) I hz e' (Heap.SameBut.update ..) (h4.append (.one hy))
            exact hQ W _ _ x' I' .none
          · cases e
        · cases e
  | _ => cases e
noncomputable def extendM : AV → List AV → Cm AV := fun x ys st => match x, ys with
  | .lob k, [y] => (match getL1 k st.lst, itemsM y st with
      | some xs, some (zs, _) => if xs.length + zs.length ≤ 100000 then some (.none, { st with lst := putL1 k (xs ++ zs) st.lst }) else .none
      | _, _ => .none)
  | _, _ => .none
theorem extend_ok : OkMeth c n "list.extend" extendM := by
  intro p hr W0 o x vs xs ho hvs W st s hle I b st' e Q E hQ
  cases ho.mono hle with
  | lob k hk =>
    cases hvs.mono hle with
    | nil => cases e
    | cons hy hr' =>
      cases hr' with
      | cons _ _ => cases e
      | nil =>
        simp only [extendM] at e
        split at e
        · rename_i zs ws st2 hz hw
          split at e
          · rename_i hsz
            cases e
            obtain ⟨_, _, us, m, h3, h4⟩ := I.hr.lobAt hz
            obtain ⟨_, a, ts, m2, rfl, h5, h6⟩ := items_at I hy hw
            have hl := h4.length
            have hl2 := h6.length
            have hs' : us.toArray.size + ts.toArray.size ≤ sizeLine := by rw [List.size_toArray, List.size_toArray, sizeLine_eq]; omega
            refine call_meets PySem.F.slot_list_extend ⟨_, h3, rfl⟩ PySem.F.entry_list_extend (PySem.F.args_list_extend_2 _ _) (AutoSeq1.list_extend_list_list_0 _ us.toArray m a ts.toArray m2 (extend_door hs') (Nat.le_trans (Nat.le_add_right _ _) hs') (Nat.le_succ_of_le hs')) ⟨h3, h5, ?_⟩
            obtain ⟨m', e'⟩ := upd_list (f := fun z => z ++ ts.toArray) h3
            rw [show us.toArray ++ ts.toArray = (us ++ ts).toArray from by simp] at e'
            obtain ⟨I', x'⟩ := lob_change (tk := s.toks) I hz e' (Heap.SameBut.update ..) (h4.append h6)
            exact hQ W _ _ x' I' .none
          · cases e
        · cases e
  | _ => cases e
end
end Mine

namespace Mine

section
variable {c : Cx} {n : Nat} {sx : Sx}

noncomputable def idxM (xs : List AV) (i : Int) : Option AV := if 0 ≤ i then xs[i.toNat]? else if 0 ≤ i + xs.length then xs[(i + xs.length).toNat]? else .none
noncomputable def getItemM : AV → AV → Cm AV := fun o i st => match i with
  | .int i => (match o with
    | .tup xs => if xs.length ≤ 100000 then (match idxM xs i with | some v => some (v, st) | .none => .none) else .none
    | o => (match itemsM o st with
      | some (xs, _) => if xs.length ≤ 100000 then (match idxM xs i with | some v => some (v, st) | .none => .none) else .none
      | .none => .none))
  | _ => .none
theorem idx_seq {xs : List AV} {i : Int} {v : AV} (h : idxM xs i = some v) : ∃ j, seqIndex? i xs.length = some j ∧ xs[j]? = some v ∧ -(xs.length : Int) ≤ i ∧ i < xs.length := by
  unfold idxM at h
  split at h
  · rename_i h0
    have hlt : i.toNat < xs.length := (List.getElem?_eq_some_iff.mp h).1
    refine ⟨i.toNat, ?_, h, by omega, by omega⟩
    unfold seqIndex?
    simp only [show ¬ i < 0 from by omega, if_false]
    rw [if_pos (by simp; omega)]
  · rename_i h0
    split at h
    · rename_i h1
      have hlt : (i + xs.length).toNat < xs.length := (List.getElem?_eq_some_iff.mp h).1
      refine ⟨(i + xs.length).toNat, ?_, h, by omega, by omega⟩
      unfold seqIndex?
      simp only [show i < 0 from by omega, if_true]
      rw [if_pos (by simp; omega)]
    · cases h
theorem getList_wp {A : Around} {E : Value → Shared → Prop} {s : Shared} {W : Wd} {a : Addr} {vs : List Value} {m : Nat} {xs : List AV} {i : Int} {t : Tok} {v : AV} {Q : Value → Shared → Prop} (h : s.heap.get? a = some (listOf vs.toArray m)) (hv : VRs W vs xs) (hi : idxM xs i = some v) (hsz : xs.length ≤ 100000)
    (hQ : ∀ val, VR W val v → Q val s) : wpAny (model c.prog c.w) A (getItem (.ref a) (.int i t)) Q E s := by
  have hl := hv.length
  have L : s.heap.IsList a vs.toArray := ⟨_, h, rfl, _, rfl⟩
  unfold idxM at hi
  split at hi
  · rename_i h0
    obtain ⟨w, hw, r⟩ := hv.get hi
    have hlt : i.toNat < xs.length := (List.getElem?_eq_some_iff.mp hi).1
    exact wpAny_getItem_list L h0 (by omega) (by rw [List.getElem?_toArray]; exact hw) (hQ w r)
  · rename_i h0
    split at hi
    · rename_i h1
      obtain ⟨w, hw, r⟩ := hv.get hi
      refine wpAny_getItem_list_neg L (by omega) (by rw [List.size_toArray]; omega) (by omega) ?_ (hQ w r)
      rw [List.size_toArray, List.getElem?_toArray, hl]; exact hw
    · cases hi
theorem getItem_ok {p : Pl} {value slice : Expr} {W0 : Wd} {o i : Value} {x y : AV} (ho : VR W0 o x) (hi : VR W0 i y) (hs : ∀ o i, subscripted slice false o i = operate [o, i] (getItem o i)) : Ok c p W0 (subscriptTail value slice o i) VR (getItemM x y) := by
  intro W st s hle I b st' e Q E hQ
  cases hi with
  | int i t =>
    have lists : ∀ (e : (match itemsM x st with
      | some (xs, _) => if xs.length ≤ 100000 then (match idxM xs i with | some v => some (v, st) | .none => .none) else .none
      | .none => .none) = some (b, st')), wpAny (model c.prog c.w) p.A (subscriptTail value slice o (.int i t)) Q E s := by
      intro e
      split at e
      · rename_i xs q he
        split at e
        · rename_i hsz
          split at e
          · rename_i v hv
            cases e
            obtain ⟨_, a, vs, m, rfl, h3, h4⟩ := items_at I (ho.mono hle) he
            refine tail_any (T := "list") ⟨_, h3, rfl⟩ slot_list_getitem.lookup (getList_wp h3 h4 hv hsz fun val r => ?_) (hs _ _)
            exact hQ W val s (Ext.refl ..) I r
          · cases e
        · cases e
      · cases e
    cases ho.mono hle with
    | tup h1 t1 t2 h2 =>
      simp only [getItemM] at e
      split at e
      · rename_i hsz
        split at e
        · rename_i v hv
          cases e
          obtain ⟨j, hj, hx, q1, q2⟩ := idx_seq hv
          obtain ⟨w, hw, r⟩ := h2.get hx
          refine tail_any (T := "tuple") ⟨_, I.hr.frz _ _ h1, t1⟩ slot_tuple_getitem.lookup (getItem_tuple (I.hr.isTuple h1 t1 t2) (by omega) (by omega) (by rw [List.size_toArray, h2.length]; exact hj) (by rw [List.getElem?_toArray]; exact hw) ?_) (hs _ _)
          exact hQ W w s (Ext.refl ..) I r
        · cases e
      · cases e
    | _ => exact lists e
  | _ => cases e
noncomputable def notSlice : Expr → Bool
  | .Slice .. => false
  | _ => true
theorem sub_plain {slice : Expr} (h : notSlice slice = true) (o i : Value) : subscripted slice false o i = operate [o, i] (getItem o i) := by
  cases slice <;> first | rfl | cases h
noncomputable def lenM : List AV → Cm AV := fun xs st => match xs with
  | [x] => (match itemsM x st with | some (ys, _) => if ys.length ≤ 100000 then some (.int ys.length, st) else .none | .none => .none)
  | _ => .none
theorem len_ok : OkCall c n (.builtin "len") lenM := by
  intro p hr W0 vs xs hv W st s hle I b st' e Q E hQ
  cases hv.mono hle with
  | nil => cases e
  | cons h1 h2 =>
    cases h2 with
    | cons _ _ => cases e
    | nil =>
      simp only [lenM] at e
      split at e
      · rename_i ys q he
        split at e
        · rename_i hsz
          cases e
          obtain ⟨_, a, us, m, rfl, h3, h4⟩ := items_at I h1 he
          have hl := h4.length
          refine len_list (items := us.toArray) ⟨_, h3, rfl, _, rfl⟩ (by rw [List.size_toArray]; omega) ?_
          rw [List.size_toArray, hl]
          exact hQ W _ _ ((Ext.refl ..).toks _) (I.toks _) (.int _ _)
        · cases e
      · cases e
noncomputable def items2M : AV → Cm (List AV) := fun x st => match x with
  | .lsb xs => some (xs, st)
  | x => itemsM x st
theorem items2_at {p : Pl} {W : Wd} {st st' : AS} {s : Shared} (I : Inv c p W st s) {v : Value} {x : AV} {xs : List AV} (hv : VR W v x) (e : items2M x st = some (xs, st')) :
    ∃ a vs, v = .ref a ∧ s.heap.IsList a (List.toArray vs) ∧ VRs W vs xs := by
  cases hv with
  | lsb h h1 h2 r => simp only [items2M] at e; cases e; exact ⟨_, _, rfl, ⟨_, I.hr.frz _ _ h, h1, _, h2⟩, r⟩
  | lst h r => obtain ⟨_, a, vs, m, e1, e2, e3⟩ := items_at I (.lst h r) e; exact ⟨a, vs, e1, ⟨_, e2, rfl, _, rfl⟩, e3⟩
  | lob k hk => obtain ⟨_, a, vs, m, e1, e2, e3⟩ := items_at I (.lob k hk) e; exact ⟨a, vs, e1, ⟨_, e2, rfl, _, rfl⟩, e3⟩
  | _ => simp only [items2M, itemsM] at e; cases e
noncomputable def addLM : AV → AV → Cm AV := fun x y st => match itemsM x st, items2M y st with
  | some (xs, _), some (ys, _) => if xs.length + ys.length ≤ 100000 then some (.lst (xs ++ ys), st) else .none
  | _, _ => .none
theorem addL_ok : OkBin c n .Add addLM := by
  intro p hr W0 a b x y ha hb W st s hle I v st' e Q E hQ
  unfold addLM at e
  split at e
  · rename_i xs q1 ys q2 h1 h2
    split at e
    · rename_i hsz
      cases e
      obtain ⟨_, l, vs, m, rfl, h3, h4⟩ := items_at I (ha.mono hle) h1
      obtain ⟨l2, ws, rfl, ⟨⟨cls2, dd2, data2, sl2⟩, ho2, hc2, n2, hd2⟩, h6⟩ := items2_at I (hb.mono hle) h2
      simp only at hc2 hd2
      subst hc2 hd2
      have e1 : vs.toArray ++ ws.toArray = (vs ++ ws).toArray := by simp
      have l1 := h4.length
      have l2 := h6.length
      refine concat_meets ⟨_, h3, rfl⟩ ⟨_, ho2, rfl⟩ noFill_list_add seq_list_add PySem.F.slot_list_add PySem.F.entry_list_add (PySem.F.args_list_add_2 _ _) (list_addW _ _ vs.toArray ws.toArray m n2 .none dd2 #[] sl2 (by rw [List.size_toArray, List.size_toArray, sizeLine_eq]; omega)) ⟨h3, ho2, ?_⟩
      rw [e1]
      obtain ⟨I', x'⟩ := I.pushFrz (listOf (vs ++ ws).toArray 0) s.toks
      exact hQ _ _ _ x' I' (.lst (n := 0) Wd.set_self ((h4.append h6).mono x'.le))
    · cases e
  · cases e
noncomputable def mulLM : AV → AV → Cm AV := fun x y st => match y with
  | .int k => (match itemsM x st with
    | some (xs, _) => if 0 ≤ k ∧ k ≤ 100000 ∧ xs.length * k.toNat ≤ 100000 then some (.lst (List.replicate k.toNat xs).flatten, st) else .none
    | .none => .none)
  | _ => .none
theorem VRs.flat {W : Wd} {vs : List Value} {xs : List AV} (h : VRs W vs xs) : ∀ k : Nat, VRs W (List.replicate k vs).flatten (List.replicate k xs).flatten
  | 0 => .nil
  | k + 1 => by rw [List.replicate_succ, List.replicate_succ, List.flatten_cons, List.flatten_cons]; exact h.append (h.flat k)
theorem mulL_ok : OkBin c n .Mult mulLM := by
  intro p hr W0 a b x y ha hb W st s hle I v st' e Q E hQ
  cases hb with
  | int k t =>
    simp only [mulLM] at e
    split at e
    · rename_i xs q1 h1
      split at e
      · rename_i hk
        cases e
        obtain ⟨_, l, vs, m, rfl, h3, h4⟩ := items_at I (ha.mono hle) h1
        have hl := h4.length
        obtain ⟨k0, k1, k2⟩ := hk
        have k3 : vs.length * k.toNat ≤ 100000 := by rw [hl]; exact k2
        have k4 : vs.toArray.size * k.toNat ≤ 100000 := by rw [List.size_toArray]; exact k3
        refine wpAny_binaryOp_repeat_ref (T := "list") (U := "int") (by decide) ⟨_, h3, rfl⟩ (fun s' => typeIs_int s' k t) noFill_list_mul F.fills_int_mul F.slot_int_rmul repeat_list F.slot_int_index.lookup
          (call_meets F.slot_int_rmul (typeIs_int s k t) F.entry_int_rmul (F.args_int_rmul_2 _ _) (int___rmul___int_list k t l vs.toArray m)
            ⟨h3, rfl, ⟨_, h3, rfl⟩, call_meets F.slot_list_mul ⟨_, h3, rfl⟩ F.entry_list_mul (F.args_list_mul_2 _ _)
              (AutoListH.list___mul___list_int_3 l vs.toArray m k t (by simp [Builtin.List.listFitsIndex]; omega) (by omega) (by simp [Builtin.List.listTooLong, sizeLine]; omega))
              ⟨h3, ?_⟩⟩)
        rw [listMul_foldl_if]
        obtain ⟨I', x'⟩ := I.pushFrz (listOf (List.replicate k.toNat vs).flatten.toArray 0) s.toks
        exact hQ _ _ _ x' I' (.lst (n := 0) Wd.set_self ((h4.flat _).mono x'.le))
      · cases e
    · cases e
  | _ => cases e
end
end Mine

namespace Mine

noncomputable def eqAll (f : AV → AV → Option Bool) : List AV → List AV → Option Bool
  | [], [] => some true
  | x :: xs, y :: ys => (match f x y with
      | some a => (match eqAll f xs ys with | some b => some (a && b) | .none => .none)
      | .none => .none)
  | _, _ => some false
noncomputable def eqF (st : AS) : Nat → AV → AV → Option Bool
  | 0, _, _ => .none
  | d + 1, .none, y => (match y with | .none => some true | .str _ => some false | .int _ => some false | .bool _ => some false | _ => .none)
  | d + 1, .bool a, y => (match y with | .bool b => some (a == b) | .none => some false | .str _ => some false | _ => .none)
  | d + 1, .int a, y => (match y with | .int b => some (a == b) | .none => some false | .str _ => some false | _ => .none)
  | d + 1, .str a, y => (match y with | .str b => some (a == b) | .none => some false | .int _ => some false | .bool _ => some false | _ => .none)
  | d + 1, .bytes a, y => (match y with | .bytes b => some (a.toList == b.toList) | _ => .none)
  | d + 1, .tup xs, y => (match y with | .tup ys => if xs.length = ys.length then eqAll (eqF st d) xs ys else .none | _ => .none)
  | d + 1, x, y => (match itemsM x st, itemsM y st with
      | some (xs, _), some (ys, _) => if xs.length = ys.length then eqAll (eqF st d) xs ys else some false
      | _, _ => .none)
theorem eqAll_idx {W : Wd} {f : AV → AV → Option Bool} {P : Value → Value → Bool → Prop} (hf : ∀ v w x y b, VR W v x → VR W w y → f x y = some b → P v w b) : ∀ {vs ws : List Value} {xs ys : List AV} {b : Bool}, VRs W vs xs → VRs W ws ys → eqAll f xs ys = some b → vs.length = ws.length →
    ∃ e : Nat → Bool, (∀ j (h1 : j < vs.length) (h2 : j < ws.length), P vs[j] ws[j] (e j)) ∧ (List.range vs.length).all e = b
  | _, _, _, _, b, .nil, .nil, h, _ => by cases h; exact ⟨fun _ => true, fun j h1 _ => absurd h1 (Nat.not_lt_zero _), rfl⟩
  | _, _, _, _, b, .nil, .cons _ _, _, hl => by cases hl
  | _, _, _, _, b, .cons _ _, .nil, _, hl => by cases hl
  | v :: vs, w :: ws, x :: xs, y :: ys, b, .cons a1 r1, .cons a2 r2, h, hl => by
    simp only [eqAll] at h
    split at h
    · rename_i a ha
      split at h
      · rename_i b' hb
        cases h
        obtain ⟨e, h1, h2⟩ := eqAll_idx hf r1 r2 hb (by simpa using hl)
        refine ⟨fun j => match j with | 0 => a | j + 1 => e j, fun j q1 q2 => ?_, ?_⟩
        · cases j with
          | zero => exact hf v w x y a a1 a2 ha
          | succ j => exact h1 j (by simpa using q1) (by simpa using q2)
        · rw [List.length_cons, List.range_succ_eq_map, List.all_cons, List.all_map]
          rw [← h2]; rfl
      · cases h
    · cases h
section
variable {c : Cx} {n : Nat} {sx : Sx}
open PySem.SeqAt

theorem rc_bytes {A : Around} {s : Shared} {a b : Array UInt8} {t u : Tok} : RcAt A s (.bytes a t) (.bytes b u) (a.toList == b.toList) := fun prog w E Q h => eq_bytes h
theorem eq_bytesAt {A : Around} {s : Shared} {a b : Array UInt8} {t u : Tok} : EqAt A s (.bytes a t) (.bytes b u) (a.toList == b.toList) := fun prog w E Q h => by
  unfold eqBool
  refine wpAny_holding ?_
  refine wpAny_ite_split (fun hab => ?_) (fun _ => ?_)
  · have e : a = b := by have := eq_of_beq hab; injection this
    subst e
    exact wpAny_bind (wpAny_rule (wpAny_pure (by simpa using h)))
  · exact wpAny_bind (rc_bytes prog w E _ (wpAny_truthy_bool h))
theorem eqF_list {d : Nat} {st : AS} {x y : AV} {b : Bool} (hx : ∀ a, x ≠ .none ∧ x ≠ .bool a) (h1 : ∀ a, x ≠ .int a) (h2 : ∀ a, x ≠ .str a) (h3 : ∀ a, x ≠ .bytes a) (h4 : ∀ a, x ≠ .tup a) (e : eqF st (d + 1) x y = some b) :
    ∃ xs ys q1 q2, itemsM x st = some (xs, q1) ∧ itemsM y st = some (ys, q2) ∧ (if xs.length = ys.length then eqAll (eqF st d) xs ys else some false) = some b := by
  have : eqF st (d + 1) x y = (match itemsM x st, itemsM y st with
      | some (xs, _), some (ys, _) => if xs.length = ys.length then eqAll (eqF st d) xs ys else some false
      | _, _ => .none) := by
    cases x <;> first | rfl | exact absurd rfl (hx true).1 | exact absurd rfl (hx _).2 | exact absurd rfl (h1 _) | exact absurd rfl (h2 _) | exact absurd rfl (h3 _) | exact absurd rfl (h4 _)
  rw [this] at e
  split at e
  · rename_i xs q1 ys q2 e1 e2; exact ⟨xs, ys, q1, q2, e1, e2, e⟩
  · cases e
theorem eqAll_self {W : Wd} {f : AV → AV → Option Bool} (hf : ∀ v x y b, VR W v x → VR W v y → f x y = some b → b = true) : ∀ {vs : List Value} {xs ys : List AV} {b : Bool}, VRs W vs xs → VRs W vs ys → eqAll f xs ys = some b → b = true
  | _, _, _, b, .nil, .nil, h => by cases h; rfl
  | v :: vs, x :: xs, y :: ys, b, .cons a1 r1, .cons a2 r2, h => by
    simp only [eqAll] at h
    split at h
    · rename_i a ha
      split at h
      · rename_i b' hb
        cases h
        rw [hf v x y a a1 a2 ha, eqAll_self hf r1 r2 hb]; rfl
      · cases h
    · cases h
theorem eqF_lists_self {p : Pl} {W : Wd} {st : AS} {s : Shared} (I : Inv c p W st s) {d : Nat} (ih : ∀ v x y b, VR W v x → VR W v y → eqF st d x y = some b → b = true) {v : Value} {x y : AV} {xs ys : List AV} {q1 q2 : AS} {b : Bool} (hx : VR W v x) (hy : VR W v y)
    (e1 : itemsM x st = some (xs, q1)) (e2 : itemsM y st = some (ys, q2)) (h : (if xs.length = ys.length then eqAll (eqF st d) xs ys else some false) = some b) : b = true := by
  obtain ⟨_, l1, us, m1, rfl, g1, r1⟩ := items_at I hx e1
  obtain ⟨_, l2, ts, m2, e, g2, r2⟩ := items_at I hy e2
  cases e
  rw [g1] at g2
  cases g2
  rw [if_pos (by rw [← r1.length, ← r2.length])] at h
  exact eqAll_self ih r1 r2 h
theorem eqF_self {p : Pl} {W : Wd} {st : AS} {s : Shared} (I : Inv c p W st s) : ∀ (d : Nat) (v : Value) (x y : AV) (b : Bool), VR W v x → VR W v y → eqF st d x y = some b → b = true
  | 0, _, _, _, _, _, _, h => by cases h
  | d + 1, v, x, y, b, hx, hy, h => by
    have ih := eqF_self I d
    have lists : (∀ a, x ≠ .none ∧ x ≠ .bool a) → (∀ a, x ≠ .int a) → (∀ a, x ≠ .str a) → (∀ a, x ≠ .bytes a) → (∀ a, x ≠ .tup a) → b = true := fun h0 h1 h2 h3 h4 => by
      obtain ⟨xs, ys, q1, q2, e1, e2, e3⟩ := eqF_list h0 h1 h2 h3 h4 h
      exact eqF_lists_self I ih hx hy e1 e2 e3
    cases x with
    | none =>
      obtain rfl := hx.inv_none
      cases y with
      | none => cases h; rfl
      | str _ => obtain ⟨_, q⟩ := hy.inv_str; cases q
      | int _ => obtain ⟨_, q⟩ := hy.inv_int; cases q
      | bool _ => cases hy.inv_bool
      | _ => cases h
    | bool a =>
      obtain rfl := hx.inv_bool
      cases y with
      | bool _ => cases h; cases hy.inv_bool; exact beq_self_eq_true _
      | none => cases hy.inv_none
      | str _ => obtain ⟨_, q⟩ := hy.inv_str; cases q
      | _ => cases h
    | int a =>
      obtain ⟨_, rfl⟩ := hx.inv_int
      cases y with
      | int _ => cases h; obtain ⟨_, q⟩ := hy.inv_int; cases q; exact beq_self_eq_true _
      | none => cases hy.inv_none
      | str _ => obtain ⟨_, q⟩ := hy.inv_str; cases q
      | _ => cases h
    | str a =>
      obtain ⟨_, rfl⟩ := hx.inv_str
      cases y with
      | str _ => cases h; obtain ⟨_, q⟩ := hy.inv_str; cases q; exact beq_self_eq_true _
      | none => cases hy.inv_none
      | int _ => obtain ⟨_, q⟩ := hy.inv_int; cases q
      | bool _ => cases hy.inv_bool
      | _ => cases h
    | bytes a =>
      obtain ⟨_, rfl⟩ := hx.inv_bytes
      cases y with
      | bytes _ => cases h; obtain ⟨_, q⟩ := hy.inv_bytes; cases q; exact beq_self_eq_true _
      | _ => cases h
    | tup xs =>
      cases hx with
      | tup e1 t1 t2 r1 =>
        cases hy with
        | tup e2 t3 t4 r2 =>
          rw [e1] at e2
          cases e2
          rw [t2] at t4
          cases t4
          simp only [eqF] at h
          rw [if_pos (by rw [← r1.length, ← r2.length])] at h
          exact eqAll_self ih r1 r2 h
        | _ => simp [eqF] at h
    | _ => exact lists (fun _ => ⟨nofun, nofun⟩) nofun nofun nofun nofun
theorem eqF_ok {p : Pl} {W : Wd} {st : AS} {s : Shared} (I : Inv c p W st s) : ∀ (d : Nat) {A : Around} {v w : Value} {x y : AV} {b : Bool}, A.units + d < cLine → VR W v x → VR W w y → eqF st d x y = some b →
    EqAt A s v w b ∧ RcAt A s v w b ∧ RcNeAt A s v w (!b)
  | 0, _, _, _, _, _, _, _, _, _, h => by cases h
  | d + 1, A, v, w, x, y, b, hu, hv, hw, h => by
    have ih : ∀ v w x y b, VR W v x → VR W w y → eqF st d x y = some b → EqAt A.in1 s v w b := fun v w x y b h1 h2 h3 => (eqF_ok I d (A := A.in1) (by show A.units + 1 + d < cLine; omega) h1 h2 h3).1
    have hu' : A.units < cLine := by omega
    have lists : ∀ {xs ys : List AV} {q1 q2 : AS} {b : Bool}, VR W v x → VR W w y → itemsM x st = some (xs, q1) → itemsM y st = some (ys, q2) → (if xs.length = ys.length then eqAll (eqF st d) xs ys else some false) = some b →
        EqAt A s v w b ∧ RcAt A s v w b ∧ RcNeAt A s v w (!b) := by
      intro xs ys q1 q2 b hv hw e1 e2 h
      have hself : v = w → b = true := fun q => by subst q; exact eqF_lists_self I (eqF_self I d) hv hw e1 e2 h
      obtain ⟨_, l1, us, m1, rfl, g1, r1⟩ := items_at I hv e1
      obtain ⟨_, l2, ts, m2, rfl, g2, r2⟩ := items_at I hw e2
      have L1 : s.heap.IsList l1 us.toArray := ⟨_, g1, rfl, _, rfl⟩
      have L2 : s.heap.IsList l2 ts.toArray := ⟨_, g2, rfl, _, rfl⟩
      split at h
      · rename_i hl
        have hl' : us.length = ts.length := by rw [r1.length, r2.length, hl]
        obtain ⟨e, he, hb⟩ := eqAll_idx ih r1 r2 h hl'
        have hsz : us.toArray.size = ts.toArray.size := by simp [hl']
        have he' : ∀ j (h1 : j < us.toArray.size) (h2 : j < ts.toArray.size), EqAt A.in1 s us.toArray[j] ts.toArray[j] (e j) := fun j h1 h2 => by
          rw [List.getElem_toArray, List.getElem_toArray]
          exact he j (by simpa using h1) (by simpa using h2)
        have R := RcAt.lists L1 L2 hsz hu' he'
        have N := RcNeAt.lists L1 L2 hsz hu' he'
        rw [List.size_toArray, hb] at R N
        refine ⟨?_, R, N⟩
        by_cases hne : l1 = l2
        · subst hne; rw [hself rfl]; exact EqAt.same _
        · exact EqAt.of_refs hne R
      · rename_i hl
        cases h
        have hsz : (us.toArray.size != ts.toArray.size) = true := by
          simp only [List.size_toArray, r1.length, r2.length, bne_iff_ne]; exact hl
        have hne : l1 ≠ l2 := fun q => by
          subst q; rw [g1] at g2; cases g2; simp at hsz
        exact ⟨EqAt.of_refs hne (RcAt.lists_lengths L1 L2 hsz hu'), RcAt.lists_lengths L1 L2 hsz hu', RcNeAt.lists_lengths L1 L2 hsz hu'⟩
    cases x with
    | none =>
      obtain rfl := hv.inv_none
      cases y with
      | none => cases h; obtain rfl := hw.inv_none; exact ⟨EqAt.same _, RcAt.none_none, RcNeAt.none_none⟩
      | str _ => cases h; obtain ⟨_, rfl⟩ := hw.inv_str; exact ⟨EqAt.none_str _ _, RcAt.none_str _ _, RcNeAt.none_str _ _⟩
      | int _ => cases h; obtain ⟨_, rfl⟩ := hw.inv_int; exact ⟨EqAt.none_int _ _, RcAt.none_int _ _, RcNeAt.none_int _ _⟩
      | bool _ => cases h; obtain rfl := hw.inv_bool; exact ⟨EqAt.none_bool _, RcAt.none_bool _, RcNeAt.none_bool _⟩
      | _ => cases h
    | bool a =>
      obtain rfl := hv.inv_bool
      cases y with
      | bool _ => cases h; obtain rfl := hw.inv_bool; exact ⟨EqAt.bool_bool _ _, RcAt.bool_bool _ _, RcNeAt.bool_bool _ _⟩
      | none => cases h; obtain rfl := hw.inv_none; exact ⟨EqAt.bool_none _, RcAt.bool_none _, RcNeAt.bool_none _⟩
      | str _ => cases h; obtain ⟨_, rfl⟩ := hw.inv_str; exact ⟨EqAt.bool_str _ _ _, RcAt.bool_str _ _ _, RcNeAt.bool_str _ _ _⟩
      | _ => cases h
    | int a =>
      obtain ⟨_, rfl⟩ := hv.inv_int
      cases y with
      | int _ => cases h; obtain ⟨_, rfl⟩ := hw.inv_int; exact ⟨EqAt.int_int _ _ _ _, RcAt.int_int _ _ _ _, RcNeAt.int_int _ _ _ _⟩
      | none => cases h; obtain rfl := hw.inv_none; exact ⟨EqAt.int_none _ _, RcAt.int_none _ _, RcNeAt.int_none _ _⟩
      | str _ => cases h; obtain ⟨_, rfl⟩ := hw.inv_str; exact ⟨EqAt.int_str _ _ _ _, RcAt.int_str _ _ _ _, RcNeAt.int_str _ _ _ _⟩
      | _ => cases h
    | str a =>
      obtain ⟨_, rfl⟩ := hv.inv_str
      cases y with
      | str _ => cases h; obtain ⟨_, rfl⟩ := hw.inv_str; exact ⟨EqAt.str_str _ _ _ _, RcAt.str_str _ _ _ _, RcNeAt.str_str _ _ _ _⟩
      | none => cases h; obtain rfl := hw.inv_none; exact ⟨EqAt.str_none _ _, RcAt.str_none _ _, RcNeAt.str_none _ _⟩
      | int _ => cases h; obtain ⟨_, rfl⟩ := hw.inv_int; exact ⟨EqAt.str_int _ _ _ _, RcAt.str_int _ _ _ _, RcNeAt.str_int _ _ _ _⟩
      | bool _ => cases h; obtain rfl := hw.inv_bool; exact ⟨EqAt.str_bool _ _ _, RcAt.str_bool _ _ _, RcNeAt.str_bool _ _ _⟩
      | _ => cases h
    | bytes a =>
      obtain ⟨_, rfl⟩ := hv.inv_bytes
      cases y with
      | bytes _ => cases h; obtain ⟨_, rfl⟩ := hw.inv_bytes; exact ⟨eq_bytesAt, rc_bytes, fun prog w E Q q => ne_bytes q⟩
      | _ => cases h
    | tup xs =>
      have hself : v = w → b = true := fun q => by subst q; exact eqF_self I (d + 1) v _ _ b hv hw h
      cases hv with
      | @tup l1 _ us k1 _ e1 t1 t2 r1 =>
        cases hw with
        | @tup l2 _ ts k2 ys e2 t3 t4 r2 =>
          simp only [eqF] at h
          split at h
          · rename_i hl
            have hl' : us.length = ts.length := by rw [r1.length, r2.length, hl]
            obtain ⟨e, he, hb⟩ := eqAll_idx ih r1 r2 h hl'
            have he' : ∀ j (h1 : j < us.toArray.size) (h2 : j < ts.toArray.size), EqAt A.in1 s us.toArray[j] ts.toArray[j] (e j) := fun j h1 h2 => by
              rw [List.getElem_toArray, List.getElem_toArray]
              exact he j (by simpa using h1) (by simpa using h2)
            have R := RcAt.tuples (I.hr.isTuple e1 t1 t2) (I.hr.isTuple e2 t3 t4) hu' he'
            have N := RcNeAt.tuples (I.hr.isTuple e1 t1 t2) (I.hr.isTuple e2 t3 t4) hu' he'
            rw [List.size_toArray, List.size_toArray, ← hl', Nat.min_self, hb] at R N
            simp only [beq_self_eq_true, Bool.and_true] at R N
            refine ⟨?_, R, N⟩
            by_cases hne : l1 = l2
            · subst hne; rw [hself rfl]; exact EqAt.same _
            · exact EqAt.of_refs hne R
          · cases h
        | _ => simp [eqF] at h
    | _ =>
      obtain ⟨xs, ys, q1, q2, e1, e2, e3⟩ := eqF_list (e := h) (by intro a; constructor <;> intro q <;> cases q) (by intro a q; cases q) (by intro a q; cases q) (by intro a q; cases q) (by intro a q; cases q)
      exact lists hv hw e1 e2 e3
noncomputable def eqM : AV → AV → Cm Bool := fun x y st => match eqF st 8 x y with
  | some b => some (b, st)
  | .none => .none
noncomputable def neM : AV → AV → Cm Bool := fun x y st => match eqF st 8 x y with
  | some b => some (!b, st)
  | .none => .none
theorem eq_ok : OkCmp c n .Eq eqM := by
  intro p hr W0 a b x y ha hb W st s hle I r st' e Q E hQ
  unfold eqM at e
  split at e
  · rename_i bb h
    cases e
    exact (eqF_ok I 8 (by have := hr.units; omega) (ha.mono hle) (hb.mono hle) h).2.1 _ _ E Q (hQ W _ s (Ext.refl ..) I rfl)
  · cases e
theorem ne_ok : OkCmp c n .NotEq neM := by
  intro p hr W0 a b x y ha hb W st s hle I r st' e Q E hQ
  unfold neM at e
  split at e
  · rename_i bb h
    cases e
    exact (eqF_ok I 8 (by have := hr.units; omega) (ha.mono hle) (hb.mono hle) h).2.2 _ _ E Q (hQ W _ s (Ext.refl ..) I rfl)
  · cases e
end
end Mine

namespace Mine

section
variable {c : Cx} {n : Nat} {sx : Sx}

noncomputable def addM : AV → AV → Cm AV := fun x y => match x with
  | .int a => (match y with | .int b => pu (.int (a + b)) | _ => no)
  | .str a => (match y with | .str b => if a.length + b.length ≤ 100000 then pu (.str (a ++ b)) else no | _ => no)
  | x => addLM x y
theorem add_ok : OkBin c n .Add addM := by
  intro p hr W0 a b x y ha hb W st s hle I v st' e Q E hQ
  have lists : addLM x y st = some (v, st') → wpAny (model c.prog c.w) p.A (binaryOp .Add a b) Q E s := fun e => addL_ok p hr W0 a b x y ha hb W st s hle I v st' e Q E hQ
  cases ha with
  | int i t =>
    cases hb with
    | int j u => cases e; exact P.add_int (hQ W _ _ ((Ext.refl ..).toks _) (I.toks _) (.int _ _))
    | _ => cases e
  | str i t =>
    cases hb with
    | str j u =>
      simp only [addM] at e
      split at e
      · rename_i hsz
        cases e
        exact PyProof.Rows.add_str (fun t' tk => hQ W _ _ ((Ext.refl ..).toks _) (I.toks _) (.str _ _)) (by rw [sizeLine_eq]; omega)
      · cases e
    | _ => cases e
  | _ => exact lists e
noncomputable def subM : AV → AV → Cm AV := fun x y => match x with
  | .int a => (match y with | .int b => pu (.int (a - b)) | _ => no)
  | _ => no
theorem sub_ok : OkBin c n .Sub subM := by
  intro p hr W0 a b x y ha hb W st s hle I v st' e Q E hQ
  cases ha with
  | int i t =>
    cases hb with
    | int j u => cases e; exact P.sub_int (hQ W _ _ ((Ext.refl ..).toks _) (I.toks _) (.int _ _))
    | _ => cases e
  | _ => cases e
noncomputable def modM : AV → AV → Cm AV := fun x y => match x with
  | .int a => (match y with | .int b => if 0 < b then pu (.int (a % b)) else no | _ => no)
  | _ => no
theorem mod_ok : OkBin c n .Mod modM := by
  intro p hr W0 a b x y ha hb W st s hle I v st' e Q E hQ
  cases ha with
  | int i t =>
    cases hb with
    | int j u =>
      simp only [modM] at e
      split at e
      · rename_i hj
        cases e
        refine mod_int' (by omega) ?_
        rw [Int.fmod_eq_emod_of_nonneg _ (by omega)]
        exact hQ W _ _ ((Ext.refl ..).toks _) (I.toks _) (.int _ _)
      · cases e
    | _ => cases e
  | _ => cases e
noncomputable def divM : AV → AV → Cm AV := fun x y => match x with
  | .int a => (match y with | .int b => if 0 < b ∧ b < 1000000 then pu (.int (a / b)) else no | _ => no)
  | _ => no
theorem div_ok : OkBin c n .FloorDiv divM := by
  intro p hr W0 a b x y ha hb W st s hle I v st' e Q E hQ
  cases ha with
  | int i t =>
    cases hb with
    | int j u =>
      simp only [divM] at e
      split at e
      · rename_i hj
        cases e
        refine PyProof.Rows.floordiv_int (by omega) ?_ (.inl (PyProof.noPylong_small (by omega)))
        rw [Int.fdiv_eq_ediv_of_nonneg _ (by omega)]
        exact hQ W _ _ ((Ext.refl ..).toks _) (I.toks _) (.int _ _)
      · cases e
    | _ => cases e
  | _ => cases e
noncomputable def negM (f : Cm AV) : Cm AV := bd f fun x => match x with
  | .int a => pu (.int (-a))
  | _ => no
theorem ImplE.neg {e : Expr} {pos : Pos} {f : Cm AV} (h : ImplE c n sx e f) : ImplE c n sx (.UnaryOp .USub e pos) (negM f) := by
  intro p hsx hr W0 W st s hle I b st' e Q E hQ
  obtain ⟨x, st1, e1, e2⟩ := bd_some e
  refine wpAny_UnaryOp (h p hsx hr W W st s (Le.refl _) I x st1 e1 _ E fun W1 v s1 x1 I1 r1 => ?_)
  cases r1 with
  | int i t => cases e2; exact P.neg_int (hQ W1 _ _ (x1.toks _) (I1.toks _) (.int _ _))
  | _ => cases e2
end
end Mine

namespace Mine

section
variable {c : Cx} {n : Nat} {sx : Sx}

noncomputable def NewW (W : Wd) (h : Heap) (W' : Wd) (h' : Heap) : Prop := W' = W ∨ ∃ T o, h.get? T = .none ∧ h'.get? T = some o ∧ W' = W.set T (.frz o)
noncomputable def goesU : Expr → Bool
  | .Tuple .. => true
  | _ => false
noncomputable def goesT : Expr → Bool
  | .Name .. => true
  | .Tuple .. => true
  | _ => false
structure Itr (c : Cx) (A : Around) (I : Addr) (fp wr : List Addr) (gt : Expr → Bool) {σ : Type} (nx : σ → AS → Option (Option (AV × σ))) (J : σ → Wd → AS → Heap → Prop) : Prop where
  frame : ∀ (own : Addr → Prop) i W W' st st' s s', (∀ b ∈ fp, ¬ own b) → J i W st s.heap → HR c W st s.heap → Ext own W s W' s' → HR c W' st' s'.heap → J i W' st' s'.heap
  alive : ∀ i W st h, J i W st h → ∀ b ∈ fp, ∃ o, h.get? b = some o
  wrOk : ∀ i W st h, J i W st h → ∀ b ∈ wr, W.role b = .oth ∧ ∃ o, h.get? b = some o
  next : ∀ i i' x W st s tgt, gt tgt = true → J i W st s.heap → HR c W st s.heap → nx i st = some (some (x, i')) → ∀ (Q : Value → Shared → Prop) (E : Value → Shared → Prop),
    (∀ W' v h' tk, NewW W s.heap W' h' → VR W' v x → J i' W' st h' → (∀ b o, b ∉ wr → s.heap.get? b = some o → h'.get? b = some o) → Q v { s with heap := h', toks := tk }) →
    wpAny (model c.prog c.w) A (pyNext (.ref I)) (fun r s1 => match r with | .none => False | some v => wpAny (model c.prog c.w) A (letOwnedTupleGo tgt (.ref I) v) (fun _ s2 => Q v s2) E s1) E s
  stop : ∀ i W st s, J i W st s.heap → HR c W st s.heap → nx i st = some .none → ∀ (Q : Shared → Prop) (E : Value → Shared → Prop),
    (∀ h' tk, (∀ b o, b ∉ wr → s.heap.get? b = some o → h'.get? b = some o) → Q { s with heap := h', toks := tk }) →
    wpAny (model c.prog c.w) A (pyNext (.ref I)) (fun r s1 => match r with | .none => Q s1 | some _ => False) E s
  self : ∀ i W st s, J i W st s.heap → ∀ (Q : Value → Shared → Prop) (E : Value → Shared → Prop), Q (.ref I) s → wpAny (model c.prog c.w) A (pyIter (.ref I)) Q E s
noncomputable def forG {σ : Type} (nx : σ → AS → Option (Option (AV × σ))) (tgt : AV → Cm Unit) (body : Cm AF) : Nat → σ → Cm AF
  | 0, _ => no
  | m + 1, i => fun st => match nx i st with
    | .none => .none
    | some .none => some (.next, st)
    | some (some (x, i')) => (bd (tgt x) fun _ => thenM body (forG nx tgt body m i')) st
theorem poke_wr {p : Pl} {W0 W : Wd} {st : AS} {s0 s : Shared} {h' : Heap} {tk : Nat} {wr : List Addr} (I0 : ∀ b ∈ wr, s0.heap.get? b = .none) (hb0 : ∀ b ∈ wr, c.h0.get? b = .none) (hL : ∀ b ∈ wr, b ≠ p.env.locals) (hC : ∀ b ∈ wr, ∀ y, p.env.cells.lookup y ≠ some b)
    (hrole : ∀ b ∈ wr, W.role b = .oth) (x : Ext p.Own W0 s0 W s) (I : Inv c p W st s) (k : ∀ b o, b ∉ wr → s.heap.get? b = some o → h'.get? b = some o) :
    Inv c p W st { s with heap := h', toks := tk } ∧ Ext p.Own W0 s0 W { s with heap := h', toks := tk } := by
  refine ⟨⟨I.hr.grow fun b o hb e => k b o (fun q => ?_) e, I.fr.grow fun b o hb e => k b o (fun q => ?_) e⟩, ⟨x.le, fun b o e => ?_, x.oth, fun b o hm hn e => k b o (fun q => ?_) (x.kept b o hm hn e), x.gens, x.os⟩⟩
  · rcases hb with ⟨o', hb⟩ | hb
    · rw [hb0 b q] at hb; cases hb
    · exact hb (hrole b q)
  · rcases hb with hb | ⟨y, hb⟩
    · exact hL b q hb
    · exact hC b q y hb
  · obtain ⟨o1, e1⟩ := x.alive b o e
    exact ⟨o1, k b o1 (fun q => by rw [I0 b q] at e; cases e) e1⟩
  · rw [I0 b q] at e; cases e
theorem newW_ok {p : Pl} {W0 W W' : Wd} {st : AS} {s0 s : Shared} {h' : Heap} {tk : Nat} (hN : NewW W s.heap W' h') (Iold : Inv c p W st s) (I : Inv c p W st { s with heap := h', toks := tk }) (x0 : Ext p.Own W0 s0 W s) (x : Ext p.Own W0 s0 W { s with heap := h', toks := tk }) :
    Inv c p W' st { s with heap := h', toks := tk } ∧ Ext p.Own W0 s0 W' { s with heap := h', toks := tk } ∧ Le W W' := by
  rcases hN with rfl | ⟨T, o, hT, hT', rfl⟩
  · exact ⟨I, x, Le.refl _⟩
  · have hr := Iold.hr.oth_of_none hT
    refine ⟨I.newFrz hr hT' (fun q => ?_) (fun y q => ?_), ⟨x.le.trans (Le.set hr), x.alive, fun b o e z => ?_, x.kept, x.gens, x.os⟩, Le.set hr⟩
    · obtain ⟨ml, ⟨o1, es, ep, ho, _⟩, _⟩ := Iold.fr.ns
      rw [← q, hT] at ho; cases ho
    · obtain ⟨v', o1, ho, _⟩ := Iold.fr.cells y T q
      rw [hT] at ho; cases ho
    · rw [Wd.set_other]
      · exact x.oth b o e z
      · intro q
        obtain ⟨o1, e1⟩ := x0.alive b o e
        rw [q, hT] at e1; cases e1
theorem loop_ok {p : Pl} {I : Addr} {fp wr : List Addr} {gt : Expr → Bool} {σ : Type} {nx : σ → AS → Option (Option (AV × σ))} {J : σ → Wd → AS → Heap → Prop} (T : Itr c p.A I fp wr gt nx J) (hfp : ∀ b ∈ fp, ¬ p.Own b) (hr : Room n p.A) {target : Expr} {body : List Stmt} {tgt : AV → Cm Unit} {fb : Cm AF}
    (hg : gt target = true) (h1 : ImplA c n p.sx target tgt) (h2 : ImplS c n p.sx body fb) {W0 : Wd} {s0 : Shared} (I0 : ∀ b ∈ wr, s0.heap.get? b = .none) (hb0 : ∀ b ∈ wr, c.h0.get? b = .none) (hL : ∀ b ∈ wr, b ≠ p.env.locals) (hC : ∀ b ∈ wr, ∀ y, p.env.cells.lookup y ≠ some b)
    {W : Wd} {st : AS} {s : Shared} (x : Ext p.Own W0 s0 W s) (Iv : Inv c p W st s) {m : Nat} {i : σ} (j : J i W st s.heap) {r : AF} {st' : AS} (e : forG nx tgt fb m i st = some (r, st')) {R : Result → Shared → Prop}
    (hR : ∀ W' fl s', Ext p.Own W0 s0 W' s' → Inv c p W' st' s' → FlowR W' fl r → R (.ok fl) s') : codeAny (model c.prog c.w) p.A (.forLoop target (.ref I) body [] p.env) R s := by
  refine codeAny_forLoop_any (fun k s' => ∃ W' st1 i', Ext p.Own W0 s0 W' s' ∧ Inv c p W' st1 s' ∧ J i' W' st1 s'.heap ∧ forG nx tgt fb k i' st1 = some (r, st')) ?_ m ⟨W, st, i, x, Iv, j, e⟩
  rintro k s1 ⟨W1, st1, i1, x1, Iv1, j1, e1⟩
  cases k with
  | zero => cases e1
  | succ k =>
    simp only [forG] at e1
    split at e1
    · cases e1
    · rename_i hnx
      cases e1
      refine wpAny_noRaise (wpAny_mono (T.stop i1 W1 st' s1 j1 Iv1.hr hnx (fun s2 => R (.ok .next) s2) (fun _ _ => False) fun h' tk hk => ?_) (fun q s2 hq => ?_) fun _ _ q => q)
      · obtain ⟨I2, x2⟩ := poke_wr (tk := tk) I0 hb0 hL hC (fun b hb => (T.wrOk i1 W1 st' s1.heap j1 b hb).1) x1 Iv1 hk
        exact hR W1 _ _ x2 I2 .next
      · cases q with
        | none => exact wpAny_execs_nil hq
        | some => exact hq.elim
    · rename_i xv i2 hnx
      obtain ⟨u, st2, e2, e3⟩ := bd_some e1
      obtain ⟨fr, st3, e4, e5⟩ := bd_some e3
      refine wpAny_noRaise (wpAny_mono (T.next i1 i2 xv W1 st1 s1 target hg j1 Iv1.hr hnx (fun v s2 => wpAny (model c.prog c.w) p.A (assign target p.env v) (fun _ s3 => wpAny (model c.prog c.w) p.A (execs body p.env) (fun f s4 => match f with
            | .next | .cont => ∃ m, m < k + 1 ∧ ∃ W' st1 i', Ext p.Own W0 s0 W' s4 ∧ Inv c p W' st1 s4 ∧ J i' W' st1 s4.heap ∧ forG nx tgt fb m i' st1 = some (r, st')
            | .brk => R (.ok .next) s4
            | .ret v => R (.ok (.ret v)) s4) (fun _ _ => False) s3) (fun _ _ => False) s2) (fun _ _ => False) fun W2 v h' tk hN rv j2 hk => ?_) (fun q s2 hq => ?_) fun _ _ q => q)
      · obtain ⟨Ia, xa⟩ := poke_wr (tk := tk) I0 hb0 hL hC (fun b hb => (T.wrOk i1 W1 st1 s1.heap j1 b hb).1) x1 Iv1 hk
        obtain ⟨I2, x2, le2⟩ := newW_ok hN Iv1 Ia x1 xa
        refine h1 p rfl hr W2 v xv rv W2 st1 _ (Le.refl _) I2 u st2 e2 _ _ fun W3 _ s3 x3 I3 _ => ?_
        have j3 := T.frame p.Own i2 W2 W3 st1 st2 { s1 with heap := h', toks := tk } s3 hfp j2 I2.hr x3 I3.hr
        refine h2 p rfl hr W3 W3 st2 s3 (Le.refl _) I3 fr st3 e4 _ _ fun W4 fl s4 x4 I4 r4 => ?_
        have j4 := T.frame p.Own i2 W3 W4 st2 st3 s3 s4 hfp j3 I3.hr x4 I4.hr
        cases r4 with
        | next => exact ⟨k, Nat.lt_succ_self _, W4, st3, i2, (x2.trans x3).trans x4, I4, j4, e5⟩
        | ret rv' => cases e5; exact hR W4 _ s4 ((x2.trans x3).trans x4) I4 (.ret rv')
      · cases q with
        | none => exact hq.elim
        | some v => exact wpAny_mono hq (fun _ s3 z => wpAny_noRaise (wpAny_mono z (fun _ s4 y => wpAny_noRaise y) fun _ _ q => q)) fun _ _ q => q.elim
noncomputable def ImplI (c : Cx) (n : Nat) (sx : Sx) (e : Expr) (gt : Expr → Bool) {σ : Type} (f : Cm σ) (nx : σ → AS → Option (Option (AV × σ))) : Prop :=
  ∀ p : Pl, p.sx = sx → Room n p.A → ∀ W st s, Inv c p W st s → ∀ i st', f st = some (i, st') → ∀ (Q : Value → Shared → Prop) (E : Value → Shared → Prop),
    (∀ W' s' I fp wr J, Ext p.Own W s W' s' → Inv c p W' st' s' → Itr c p.A I fp wr gt nx J → J i W' st' s'.heap → (∀ b ∈ wr, s.heap.get? b = .none) → (∀ b ∈ fp, ¬ p.Own b) → Q (.ref I) s') →
    wpAny (model c.prog c.w) p.A (eval e p.env) (fun x s1 => wpAny (model c.prog c.w) p.A (pyIter x) Q E s1) E s
noncomputable def forM' {σ : Type} (f : Cm σ) (size : σ → AS → Nat) (nx : σ → AS → Option (Option (AV × σ))) (tgt : AV → Cm Unit) (body : Cm AF) : Cm AF := bd f fun i st => forG nx tgt body (size i st) i st
theorem ImplS1.for {gt : Expr → Bool} {target iter : Expr} {body : List Stmt} {pos : Pos} {σ : Type} {f : Cm σ} {size : σ → AS → Nat} {nx : σ → AS → Option (Option (AV × σ))} {tgt : AV → Cm Unit} {fb : Cm AF} (h0 : ImplI c n sx iter gt f nx) (h1 : ImplA c n sx target tgt) (h2 : ImplS c n sx body fb)
    (hg : gt target = true := by rfl) (hs : ∀ env x, foldedSetIterable iter env x = pure x := by intro _ _; rfl) : ImplS1 c n sx (.For target iter body [] pos) (forM' f size nx tgt fb) := by
  intro p hsx hr W0 W st s hle I r st' e Q E hQ
  obtain ⟨i, st1, e1, e2⟩ := bd_some e
  subst hsx
  refine wpAny_For (h0 p rfl hr W st s I i st1 e1 _ E fun W1 s1 It fp wr J x1 I1 T j hwr hfp => ?_) (hs p.env)
  refine loop_ok T hfp hr hg h1 h2 hwr (fun b hb => I.hr.base_none (hwr b hb)) (fun b hb q => ?_) (fun b hb y q => ?_) x1 I1 j e2 (fun W' fl s' x' I' r' => hQ W' fl s' x' I' r')
  · obtain ⟨ml, ⟨o1, es, ep, ho, _⟩, _⟩ := I.fr.ns
    rw [← q, hwr b hb] at ho; cases ho
  · obtain ⟨v', o1, ho, _⟩ := I.fr.cells y b q
    rw [hwr b hb] at ho; cases ho
end
end Mine

namespace Mine

section
variable {c : Cx} {n : Nat} {sx : Sx}

noncomputable def nxL : List AV → AS → Option (Option (AV × List AV)) := fun xs _ => match xs with
  | [] => some .none
  | x :: r => some (some (x, r))
noncomputable def sizeL : List AV → AS → Nat := fun xs _ => xs.length + 1
structure JW (fp wr : List Addr) (N : Nat) (P : Nat → Value → Prop) (St : Nat → Heap → Prop) (xs : List AV) (W : Wd) (st : AS) (h : Heap) : Prop where
  at_ : ∃ i, i + xs.length = N ∧ St i h ∧ ∀ k v x, xs[k]? = some x → P (i + k) v → VR W v x
  fpOk : ∀ b ∈ fp, ¬ W.Mut b ∧ ∃ o, h.get? b = some o
  wrOk : ∀ b ∈ wr, W.role b = .oth
theorem itr_walks {A : Around} {I : Addr} {fp wr : List Addr} {N : Nat} {P : Nat → Value → Prop} {St : Nat → Heap → Prop} (Wk : Walks c.prog c.w A I fp wr N P St) (hal : ∀ i h, St i h → ∀ b ∈ fp, ∃ o, h.get? b = some o)
    (hgo : ∀ i (s : Shared) v tgt (Q : Unit → Shared → Prop) (E : Value → Shared → Prop), goesT tgt = true → St i s.heap → Q () s → wpAny (model c.prog c.w) A (letOwnedTupleGo tgt (.ref I) v) Q E s) : Itr c A I fp wr goesT nxL (JW fp wr N P St) where
  alive := fun xs W st h j b hb => (j.fpOk b hb).2
  frame := fun own xs W W' st st' s s' hno j Iv x Iv' => by
    obtain ⟨i, h1, h2, h3⟩ := j.at_
    have kp : ∀ b ∈ fp, ∀ o, s.heap.get? b = some o → s'.heap.get? b = some o := fun b hb o e => x.kept b o (j.fpOk b hb).1 (hno b hb) e
    refine ⟨⟨i, h1, Wk.frame i s.heap s'.heap h2 kp, fun k v y e q => (h3 k v y e q).mono x.le⟩, fun b hb => ?_, fun b hb => ?_⟩
    · obtain ⟨q1, o, q3⟩ := j.fpOk b hb
      exact ⟨x.unmut q3 q1, o, kp b hb o q3⟩
    · obtain ⟨q1, o, q3⟩ := j.fpOk b (Wk.sub b hb)
      exact x.oth b o q3 (j.wrOk b hb)
  wrOk := fun xs W st h j b hb => ⟨j.wrOk b hb, (j.fpOk b (Wk.sub b hb)).2⟩
  next := fun xs xs' x W st s tgt hg j Iv e Q E hQ => by
    obtain ⟨i, h1, h2, h3⟩ := j.at_
    cases xs with
    | nil => cases e
    | cons y r =>
      cases e
      have hi : i < N := by rw [List.length_cons] at h1; omega
      refine Wk.item i s _ E hi h2 fun v h' tk hP hS hk => ?_
      refine hgo (i + 1) { s with heap := h', toks := tk } v tgt _ E hg hS ?_
      refine hQ W v h' tk (.inl rfl) (h3 0 v x rfl (by simpa using hP)) ⟨⟨i + 1, by rw [List.length_cons] at h1; omega, hS, fun k w z q1 q2 => h3 (k + 1) w z (by simpa using q1) (by rw [show i + (k + 1) = i + 1 + k from by omega]; exact q2)⟩, fun b hb => ?_, j.wrOk⟩ hk
      exact ⟨(j.fpOk b hb).1, hal _ _ hS b hb⟩
  stop := fun xs W st s j Iv e Q E hQ => by
    obtain ⟨i, h1, h2, h3⟩ := j.at_
    cases xs with
    | cons y r => cases e
    | nil =>
      have hi : i = N := by simpa using h1
      subst hi
      exact Wk.done s _ E h2 fun h' tk hk => hQ h' tk hk
  self := fun xs W st s j Q E hQ => by
    obtain ⟨i, h1, h2, h3⟩ := j.at_
    exact Wk.self i s Q E h2 hQ
theorem go_listiter {A : Around} {s : Shared} {I l : Addr} {i : Nat} {v : Value} {tgt : Expr} {Q : Unit → Shared → Prop} {E : Value → Shared → Prop} (hg : goesT tgt = true) (hit : s.heap.IsListIter I l i) (hQ : Q () s) : wpAny (model c.prog c.w) A (letOwnedTupleGo tgt (.ref I) v) Q E s := by
  cases tgt with
  | Name => exact wpAny_pure hQ
  | Tuple elts k pos =>
    cases v with
    | ref T => exact wpAny_letOwnedTupleGo_listiter hit hQ
    | _ => exact wpAny_pure hQ
  | _ => cases hg
noncomputable def lstIt : AV → Cm (List AV) := fun x => match x with
  | .lst xs => pu xs
  | _ => no
theorem Inv.fresh_own {p : Pl} {W : Wd} {st : AS} {s : Shared} (I : Inv c p W st s) {a : Addr} (h : s.heap.get? a = .none) : ¬ p.Own a := fun q => by
  rcases q with rfl | q
  · obtain ⟨ml, ⟨o1, es, ep, ho, _⟩, _⟩ := I.fr.ns
    rw [h] at ho; cases ho
  · obtain ⟨y, q⟩ := I.fr.wcIn a q
    obtain ⟨v', o1, ho, _⟩ := I.fr.cells y a q
    rw [h] at ho; cases ho
theorem Inv.frz_own {p : Pl} {W : Wd} {st : AS} {s : Shared} (I : Inv c p W st s) {a : Addr} {o : Obj} (h : W.role a = .frz o) : ¬ p.Own a ∧ ¬ W.Mut a := ⟨(fun q => by rw [I.fr.ownOth q] at h; cases h), (by unfold Wd.Mut; rw [h]; exact fun q => q)⟩
theorem ImplI.list {e : Expr} {f : Cm AV} (h : ImplE c n sx e f) : ImplI c n sx e goesT (bd f lstIt) nxL := by
  intro p hsx hr W st s I xs st' e Q E hQ
  obtain ⟨x, st1, e1, e2⟩ := bd_some e
  refine h p hsx hr W W st s (Le.refl _) I x st1 e1 _ E fun W1 v s1 x1 I1 r1 => ?_
  cases r1 with
  | @lst a vs m _ hrole hvs =>
    cases e2
    have L := I1.hr.isList hrole
    have hn : s1.heap.get? s1.heap.objs.size = .none := get_none_of_ge (Nat.le_refl _)
    have ha := I1.hr.frz _ _ hrole
    have hne : a ≠ s1.heap.objs.size := Nat.ne_of_lt (Heap.lt_size ha)
    refine wpAny_pyIter_list L ?_
    have k2 : ∀ b o, s1.heap.get? b = some o → (s1.heap.push { cls := .type "list_iterator", data := .fields #[.ref a, .int 0 0] }).get? b = some o := fun _ _ e => Heap.get?_push_of_some _ e
    have x2 : Ext p.Own W1 s1 W1 { s1 with heap := s1.heap.push { cls := .type "list_iterator", data := .fields #[.ref a, .int 0 0] } } := Ext.keeps _ _ k2 rfl rfl
    have Wk := Walks.list (prog := c.prog) (w := c.w) (A := p.A) hr.1 s1.heap.objs.size a hne vs.toArray
    refine hQ W1 _ s1.heap.objs.size [s1.heap.objs.size, a] [s1.heap.objs.size] _ (x1.trans x2) (I1.keeps k2) (itr_walks Wk (fun i hh q b hb => ?_) (fun i s v tgt Q E hg q hq => go_listiter hg q.1 hq)) ⟨⟨0, ?_, ⟨⟨_, Heap.get?_push_size _ rfl, rfl, rfl⟩, L.push _⟩, fun k v y q1 q2 => ?_⟩, fun b hb => ?_, fun b hb => ?_⟩ (fun b hb => ?_) (fun b hb => ?_)
    · rcases List.mem_cons.mp hb with rfl | hb
      · obtain ⟨o, ho, _⟩ := q.1; exact ⟨o, ho⟩
      · rw [List.mem_singleton.mp hb]; obtain ⟨o, ho, _⟩ := q.2; exact ⟨o, ho⟩
    · rw [List.size_toArray, hvs.length, Nat.zero_add]
    · rw [Nat.zero_add, List.getElem?_toArray] at q2
      obtain ⟨x', e', r'⟩ := hvs.getv q2
      rw [q1] at e'; cases e'; exact r'
    · rcases List.mem_cons.mp hb with rfl | hb
      · exact ⟨by unfold Wd.Mut; rw [I1.hr.oth_of_none hn]; exact fun q => q, _, Heap.get?_push_size _ rfl⟩
      · rw [List.mem_singleton.mp hb]; exact ⟨(I1.frz_own hrole).2, _, k2 _ _ ha⟩
    · rw [List.mem_singleton.mp hb]; exact I1.hr.oth_of_none hn
    · rw [List.mem_singleton.mp hb]
      cases z : s.heap.get? s1.heap.objs.size with
      | none => rfl
      | some o => obtain ⟨o1, z1⟩ := x1.alive _ o z; rw [hn] at z1; cases z1
    · rcases List.mem_cons.mp hb with q | hb
      · rw [q]; exact I1.fresh_own hn
      · rw [List.mem_singleton.mp hb]; exact (I1.frz_own hrole).1
  | _ => cases e2
noncomputable def rangeL (a : Int) (N : Nat) : List AV := (List.range N).map fun k => AV.int (a + (k : Nat))
theorem rangeL_len (a : Int) (N : Nat) : (rangeL a N).length = N := by simp [rangeL]
theorem go_range {A : Around} {s : Shared} {I : Addr} {x l t : Int} {v : Value} {tgt : Expr} {Q : Unit → Shared → Prop} {E : Value → Shared → Prop} (hg : goesT tgt = true) (hit : IsRangeIter s.heap I x l t) (hQ : Q () s) : wpAny (model c.prog c.w) A (letOwnedTupleGo tgt (.ref I) v) Q E s := by
  cases tgt with
  | Name => exact wpAny_pure hQ
  | Tuple elts k pos =>
    cases v with
    | ref T =>
      unfold letOwnedTupleGo
      refine wpAny_bind (wpAny_load hit ?_)
      show wpAny _ A (if (["enumerate", "zip", "dict_itemiterator", "dict_reverseitemiterator", "odict_iterator", "itertools.zip_longest", "itertools.pairwise"].contains "range_iterator" && _) = true then _ else _) Q E s
      rw [if_neg (by rw [show (["enumerate", "zip", "dict_itemiterator", "dict_reverseitemiterator", "odict_iterator", "itertools.zip_longest", "itertools.pairwise"].contains "range_iterator") = false from by decide, Bool.false_and]; exact Bool.false_ne_true)]
      exact wpAny_pure hQ
    | _ => exact wpAny_pure hQ
  | _ => cases hg
theorem range_itr {p : Pl} (hr : Room n p.A) {W W1 : Wd} {st : AS} {s s1 : Shared} {a b : Int} {t u v : Tok} {tk : Nat} (x1 : Ext p.Own W s W1 s1) (I1 : Inv c p W1 st s1) (ha : -1000000 ≤ a) (ha' : a ≤ 1000000) (hb : -1000000 ≤ b) (hb' : b ≤ 1000000) {Q : Value → Shared → Prop} {E : Value → Shared → Prop}
    (hQ : ∀ W' s' I fp wr J, Ext p.Own W s W' s' → Inv c p W' st s' → Itr c p.A I fp wr goesT nxL J → J (rangeL a (b - a).toNat) W' st s'.heap → (∀ b ∈ wr, s.heap.get? b = .none) → (∀ b ∈ fp, ¬ p.Own b) → Q (.ref I) s') :
    wpAny (model c.prog c.w) p.A (pyIter (.ref s1.heap.objs.size)) Q E { s1 with heap := s1.heap.push { cls := .type "range", data := .fields #[.int a t, .int b u, .int 1 v] }, toks := tk } := by
  refine wpAny_pyIter_range (IsRange.new ..) (small_one (by omega) (by omega) (by omega) (by omega)) ?_
  have hn : s1.heap.get? (s1.heap.objs.size + 1) = .none := get_none_of_ge (Nat.le_succ _)
  have hsz : (s1.heap.push { cls := .type "range", data := .fields #[.int a t, .int b u, .int 1 v] }).objs.size = s1.heap.objs.size + 1 := Heap.size_push ..
  have k2 : ∀ d o, s1.heap.get? d = some o → ((s1.heap.push { cls := .type "range", data := .fields #[.int a t, .int b u, .int 1 v] }).push { cls := .type "range_iterator", data := .fields #[rawInt a, rawInt (Builtin.Range.rangeSize a b 1), rawInt 1] }).get? d = some o := fun _ _ e => Heap.get?_push_of_some _ (Heap.get?_push_of_some _ e)
  have hrs : Builtin.Range.rangeSize a b 1 = ((b - a).toNat : Int) := by rw [rangeSize_one]; split <;> omega
  have Wk := Walks.range (prog := c.prog) (w := c.w) (A := p.A) hr.1 (s1.heap.objs.size + 1) a 1 (b - a).toNat
  have hit : ((s1.heap.push { cls := .type "range", data := .fields #[.int a t, .int b u, .int 1 v] }).push { cls := .type "range_iterator", data := .fields #[rawInt a, rawInt (Builtin.Range.rangeSize a b 1), rawInt 1] }).get? (s1.heap.objs.size + 1) = some { cls := .type "range_iterator", data := .fields #[rawInt a, rawInt (Builtin.Range.rangeSize a b 1), rawInt 1] } := by
    have := Heap.get?_push_size (s1.heap.push { cls := .type "range", data := .fields #[.int a t, .int b u, .int 1 v] }) (o := { cls := .type "range_iterator", data := .fields #[rawInt a, rawInt (Builtin.Range.rangeSize a b 1), rawInt 1] }) rfl
    rwa [hsz] at this
  dsimp only
  rw [hsz]
  have x2 : Ext p.Own W1 s1 W1 { s1 with heap := (s1.heap.push { cls := .type "range", data := .fields #[.int a t, .int b u, .int 1 v] }).push { cls := .type "range_iterator", data := .fields #[rawInt a, rawInt (Builtin.Range.rangeSize a b 1), rawInt 1] }, toks := tk } := Ext.keeps _ _ k2 rfl rfl
  refine hQ W1 _ (s1.heap.objs.size + 1) [s1.heap.objs.size + 1] [s1.heap.objs.size + 1] _ (x1.trans x2) (I1.keeps k2) (itr_walks Wk (fun i hh q d hd => ?_) (fun i s v tgt Q E hg q hq => go_range hg q hq)) ⟨⟨0, by rw [rangeL_len, Nat.zero_add], ?_, fun k w y q1 q2 => ?_⟩, fun d hd => ?_, fun d hd => ?_⟩ (fun d hd => ?_) (fun d hd => by rw [List.mem_singleton.mp hd]; exact I1.fresh_own hn)
  · rw [List.mem_singleton.mp hd]; exact ⟨_, q⟩
  · show IsRangeIter _ _ (a + ((0 : Nat) : Int) * 1) (((b - a).toNat : Int) - ((0 : Nat) : Int)) 1
    rw [show (a + ((0 : Nat) : Int) * 1) = a from by simp, show (((b - a).toNat : Int) - ((0 : Nat) : Int)) = Builtin.Range.rangeSize a b 1 from by rw [hrs]; simp]
    exact hit
  · obtain ⟨t', rfl⟩ := q2
    unfold rangeL at q1
    rw [List.getElem?_map] at q1
    obtain ⟨m, hm, rfl⟩ := Option.map_eq_some_iff.mp q1
    have : m = k := by
      rw [List.getElem?_range] at hm
      · cases hm; rfl
      · rcases Nat.lt_or_ge k (b - a).toNat with z | z
        · exact z
        · rw [List.getElem?_eq_none (by simpa using z)] at hm; cases hm
    subst this
    have e0 : a + ((0 + m : Nat) : Int) * 1 = a + (m : Int) := by simp
    rw [e0]
    exact .int _ _
  · rw [List.mem_singleton.mp hd]
    exact ⟨by unfold Wd.Mut; rw [I1.hr.oth_of_none hn]; exact fun q => q, _, hit⟩
  · rw [List.mem_singleton.mp hd]; exact I1.hr.oth_of_none hn
  · rw [List.mem_singleton.mp hd]
    cases z : s.heap.get? (s1.heap.objs.size + 1) with
    | none => rfl
    | some o => obtain ⟨o1, z1⟩ := x1.alive _ o z; rw [hn] at z1; cases z1
noncomputable def rangeM : List AV → Cm (List AV) := fun xs => match xs with
  | [.int b] => if -1000000 ≤ b ∧ b ≤ 1000000 then pu (rangeL 0 b.toNat) else no
  | [.int a, .int b] => if -1000000 ≤ a ∧ a ≤ 1000000 ∧ -1000000 ≤ b ∧ b ≤ 1000000 then pu (rangeL a (b - a).toNat) else no
  | _ => no
theorem ImplI.range (G : Gd c) {x : Str} {p0 pos : Pos} {es : List Expr} {fs : Cm (List AV)} (hx : sx.sc.names.lookup x = some .globalImplicit) (hg : c.Glob x (.type "range")) (h : ImplEs c n sx es fs) (hd : (x == ("__debug__" : Str)) = false := by decide) (hp : es.all plainX = true := by rfl) :
    ImplI c n sx (.Call (.Name x p0) es [] pos) goesT (bd fs rangeM) nxL := by
  intro p hsx hr W st s I xs st' e Q E hQ
  obtain ⟨ys, st1, e1, e2⟩ := bd_some e
  refine Call_ (load_glob G I (by rw [hsx]; exact hx) hg hd ?_)
  refine PyProof.Rows.callWith_type (any_false hp) (evalArgs_row hp ?_)
  refine h p hsx hr W pos W st s (Le.refl _) I ys st1 e1 _ E fun W1 vs s1 x1 I1 r1 => ?_
  unfold rangeM at e2
  split at e2
  · rename_i b
    split at e2
    · rename_i hb
      cases e2
      cases r1 with
      | cons ha hr' =>
        cases hr'
        cases ha
        refine call_range_1 (range_itr (a := 0) hr x1 I1 (by decide) (by decide) hb.1 hb.2 fun W' s' I fp wr J q1 q2 q3 q4 q5 q6 => hQ W' s' I fp wr J q1 q2 q3 ?_ q5 q6)
        rwa [show (b - 0).toNat = b.toNat from by rw [Int.sub_zero]] at q4
    · cases e2
  · rename_i a b
    split at e2
    · rename_i hb
      cases e2
      cases r1 with
      | cons ha hr' =>
        cases hr' with
        | cons hb' hr'' =>
          cases hr''
          cases ha
          cases hb'
          exact call_range_2 (range_itr hr x1 I1 hb.1 hb.2.1 hb.2.2.1 hb.2.2.2 fun W' s' I fp wr J q1 q2 q3 q4 q5 q6 => hQ W' s' I fp wr J q1 q2 q3 q4 q5 q6)
    · cases e2
  · cases e2
end
end Mine

namespace Mine

section
variable {c : Cx} {n : Nat} {sx : Sx}

end
end Mine

namespace Mine

section
variable {c : Cx} {n : Nat} {sx : Sx}

theorem ints_are {W : Wd} : ∀ {vs : List Value} {ns : List Int}, IntsAre vs ns → VRs W vs (ns.map .int)
  | _, _, h => by
    induction h with
    | nil => exact .nil
    | cons => exact .cons (.int _ _) (by assumption)
end
end Mine

namespace Mine

section
variable {c : Cx} {n : Nat} {sx : Sx}

noncomputable def relS (scope sc : Scope) : Scope := relabel scope (envS sc)
theorem rel_static {scope : Scope} {env : Env} {sc : Scope} (h : env.scope = sc) : relabel scope env = relS scope sc := by
  obtain ⟨scope', locals, globals, cells, qual, func, code, frame, builtins⟩ := env
  dsimp only at h; subst h; rfl
noncomputable def sxC (sx : Sx) (scope : Scope) (tv cp : List Str) : Sx := ⟨relS scope sx.sc, tv ++ cp, tv⟩
noncomputable def closeL (f : Str → Option Addr) : List (Str × NameKind) → List (Str × Addr) → List (Str × Addr)
  | [], acc => acc
  | (y, k) :: r, acc => if k == .free then (match f y with | some a => closeL f r ((y, a) :: acc) | .none => closeL f r acc) else closeL f r acc
theorem closure_go {env : Env} : ∀ (names : List (Str × NameKind)) (acc : List (Str × Addr)), (∀ y, (y, NameKind.free) ∈ names → ∃ a, env.cells.lookup y = some a) →
    (forIn names acc fun (x : Str × NameKind) (cs : List (Str × Addr)) => (if x.2 == .free then do let a ← cellOf env x.1; pure (ForInStep.yield ((x.1, a) :: cs)) else pure (ForInStep.yield cs) : Sem (ForInStep (List (Str × Addr))))) = pure (closeL (fun y => env.cells.lookup y) names acc)
  | [], acc, _ => rfl
  | (y, k) :: r, acc, h => by
    rw [List.forIn_cons]
    by_cases hk : (k == NameKind.free) = true
    · have hk' : k = .free := beq_iff_eq.mp hk
      subst hk'
      obtain ⟨a, ha⟩ := h y List.mem_cons_self
      have e1 : cellOf env y = pure a := by unfold cellOf; rw [ha]
      have ih := closure_go (env := env) r ((y, a) :: acc) fun z hz => h z (List.mem_cons_of_mem _ hz)
      simp only [closeL, beq_self_eq_true, if_true, ha]
      rw [e1]
      exact ih
    · have ih := closure_go (env := env) r acc fun z hz => h z (List.mem_cons_of_mem _ hz)
      simp only [closeL, hk, if_false, Bool.false_eq_true]
      exact ih
theorem closure_is {env : Env} {scope : Scope} (h : ∀ y, (y, NameKind.free) ∈ scope.names → ∃ a, env.cells.lookup y = some a) : closureFor scope env = pure (closeL (fun y => env.cells.lookup y) scope.names []) := by
  have := closure_go (env := env) scope.names [] h
  unfold closureFor
  show (forIn scope.names [] _ >>= fun cs => pure cs) = _
  have e2 : ∀ t : Sem (List (Str × Addr)), t = pure (closeL (fun y => env.cells.lookup y) scope.names []) → (t >>= fun cs => pure cs) = pure (closeL (fun y => env.cells.lookup y) scope.names []) := fun t ht => by rw [ht]; rfl
  exact e2 _ this
theorem closeL_mem {f : Str → Option Addr} : ∀ {names : List (Str × NameKind)} {acc : List (Str × Addr)} {y : Str} {a : Addr}, (y, a) ∈ closeL f names acc → (y, a) ∈ acc ∨ f y = some a
  | [], acc, y, a, h => .inl h
  | (z, k) :: r, acc, y, a, h => by
    unfold closeL at h
    split at h
    · split at h
      · rename_i b hb
        rcases closeL_mem h with q | q
        · rcases List.mem_cons.mp q with q | q
          · cases q; exact .inr hb
          · exact .inl q
        · exact .inr q
      · exact closeL_mem h
    · exact closeL_mem h
theorem closeL_has {f : Str → Option Addr} : ∀ {names : List (Str × NameKind)} {acc : List (Str × Addr)} {y : Str}, ((∃ a, (y, a) ∈ acc) ∨ ((y, NameKind.free) ∈ names ∧ ∃ a, f y = some a)) → ∃ a, (y, a) ∈ closeL f names acc
  | [], acc, y, h => by
    rcases h with h | ⟨h, _⟩
    · exact h
    · cases h
  | (z, k) :: r, acc, y, h => by
    unfold closeL
    split
    · rename_i hk
      have hk' : k = .free := beq_iff_eq.mp hk
      split
      · rename_i b hb
        refine closeL_has ?_
        rcases h with ⟨a, h⟩ | ⟨h, a, ha⟩
        · exact .inl ⟨a, List.mem_cons_of_mem _ h⟩
        · rcases List.mem_cons.mp h with q | q
          · cases q; exact .inl ⟨b, List.mem_cons_self⟩
          · exact .inr ⟨q, a, ha⟩
      · rename_i hb
        refine closeL_has ?_
        rcases h with h | ⟨h, a, ha⟩
        · exact .inl h
        · rcases List.mem_cons.mp h with q | q
          · cases q; rw [hb] at ha; cases ha
          · exact .inr ⟨q, a, ha⟩
    · rename_i hk
      refine closeL_has ?_
      rcases h with h | ⟨h, a, ha⟩
      · exact .inl h
      · rcases List.mem_cons.mp h with q | q
        · cases q; exact absurd rfl hk
        · exact .inr ⟨q, a, ha⟩
theorem closeL_apart {f : Str → Option Addr} (hf : ∀ y z a, f y = some a → f z = some a → y = z) : ∀ {names : List (Str × NameKind)} {acc : List (Str × Addr)}, acc.Pairwise (fun x y => x.2 ≠ y.2) → (∀ x ∈ acc, f x.1 = some x.2) → (names.map (·.1)).Nodup → (∀ x ∈ acc, x.1 ∉ names.map (·.1)) → (closeL f names acc).Pairwise (fun x y => x.2 ≠ y.2)
  | [], acc, h, _, _, _ => h
  | (z, k) :: r, acc, h, h1, h2, h3 => by
    obtain ⟨n1, n2⟩ := List.nodup_cons.mp h2
    unfold closeL
    split
    · split
      · rename_i b hb
        refine closeL_apart hf (List.pairwise_cons.mpr ⟨fun x hx q => ?_, h⟩) (fun x hx => ?_) n2 (fun x hx => ?_)
        · have := hf z x.1 b hb (by rw [h1 x hx]; exact congrArg some q.symm)
          exact h3 x hx (by rw [← this]; exact List.mem_cons_self)
        · rcases List.mem_cons.mp hx with q | q
          · rw [q]; exact hb
          · exact h1 x q
        · rcases List.mem_cons.mp hx with q | q
          · rw [q]; exact n1
          · exact fun w => h3 x q (List.mem_cons_of_mem _ w)
      · exact closeL_apart hf h h1 n2 fun x hx w => h3 x hx (List.mem_cons_of_mem _ w)
    · exact closeL_apart hf h h1 n2 fun x hx w => h3 x hx (List.mem_cons_of_mem _ w)
theorem lookup_of_mem {l : List (Str × Addr)} {y : Str} {a : Addr} (h : (y, a) ∈ l) : ∃ b, l.lookup y = some b := by
  induction l with
  | nil => cases h
  | cons x r ih =>
    obtain ⟨z, b⟩ := x
    rw [List.lookup_cons]
    cases q : (y == z) with
    | true => exact ⟨b, rfl⟩
    | false =>
      rcases List.mem_cons.mp h with e | e
      · cases e; simp at q
      · exact ih e
theorem codeAny_comp_any {elt target iter : Expr} {ifs : List Expr} {scope : Scope} {pos : Pos} {it acc : Value} {A : Around} {env : Env} {R : Result → Shared → Prop} {s : Shared} (I : Nat → Shared → Prop)
    (turn : ∀ n s, I n s → wpAny (model c.prog c.w) A (pyNext it) (fun r s₁ => match r with
      | .none => R (.ok .next) s₁
      | some v => wpAny (model c.prog c.w) A (letOwnedTupleGo target it v) (fun _ s₁' => wpAny (model c.prog c.w) A (assign target env v) (fun _ s₂ =>
          wpAny (model c.prog c.w) A (forIn ifs true fun c r => if r = true then do let ok ← isTrue c env (eval c env); pure (ForInStep.yield ok) else pure (ForInStep.yield r)) (fun ok s₃ =>
            if ok = true then wpAny (model c.prog c.w) A (eval elt env) (fun x s₄ =>
              wpAny (model c.prog c.w) A (call (.builtin "list.append") [acc, x]) (fun _ s₅ => ∃ m, m < n ∧ I m s₅) (fun _ _ => False) s₄) (fun _ _ => False) s₃
            else ∃ m, m < n ∧ I m s₃) (fun _ _ => False) s₂) (fun _ _ => False) s₁') (fun _ _ => False) s₁) (fun _ _ => False) s)
    (n : Nat) (h : I n s) : codeAny (model c.prog c.w) A (.compLoop (.ListComp elt [⟨target, iter, ifs, 0⟩] scope pos) 0 it acc env) R s := by
  refine codeAny_loop rfl I (fun n s hI => ?_) n h
  show wpAny _ A ((compTurn (.ListComp elt [⟨target, iter, ifs, 0⟩] scope pos) 0 it acc env).onRaise (fun x => do noteFrame x env; theTreesLotGoes x)) _ _ s
  refine wpAny_noted (wpAny_noRaise ?_)
  rw [compTurn_list]
  refine wpAny_bind (wpAny_standAt (wpAny_bind (wpAny_mono (turn n s hI) (fun r s₁ h₁ => ?_) fun _ _ h' => h')))
  cases r with
  | none => exact wpAny_pure h₁
  | some v =>
    refine wpAny_bind (wpAny_mono h₁ (fun _ s₁' h₁' => wpAny_bind (wpAny_mono h₁' (fun _ s₂ h₂ => wpAny_bind (wpAny_mono h₂ (fun ok s₃ h₃ => ?_) fun _ _ h' => h')) fun _ _ h' => h')) fun _ _ h' => h')
    cases ok with
    | false => exact wpAny_pure ⟨rfl, h₃⟩
    | true => exact wpAny_bind (wpAny_bind (wpAny_mono h₃ (fun x s₄ h₄ => wpAny_bind (wpAny_mono h₄ (fun _ s₅ h₅ => wpAny_pure (wpAny_pure ⟨rfl, h₅⟩)) fun _ _ h' => h')) fun _ _ h' => h'))
noncomputable def compG {σ : Type} (nx : σ → AS → Option (Option (AV × σ))) (tgt : AV → Cm Unit) (ft : Cm Bool) (fe : Cm AV) (K : Nat) : Nat → σ → Cm Unit
  | 0, _ => no
  | m + 1, i => fun st => match nx i st with
    | .none => .none
    | some .none => some ((), st)
    | some (some (x, i')) => (bd (tgt x) fun _ => bd ft fun ok => if ok then (bd fe fun v => bd (appendM (.lob K) [v]) fun _ => compG nx tgt ft fe K m i') else compG nx tgt ft fe K m i') st
noncomputable def ImplC (c : Cx) (n : Nat) (sx : Sx) (ifs : List Expr) (f : Cm Bool) : Prop := ∀ p : Pl, p.sx = sx → Room n p.A → ∀ W0,
  Ok c p W0 (forIn ifs true fun c r => if r = true then do let ok ← isTrue c p.env (eval c p.env); pure (ForInStep.yield ok) else pure (ForInStep.yield r)) (fun _ a b => a = b) f
theorem ImplC.nil : ImplC c n sx [] (pu true) := by
  intro p _ _ W0 W st s hle I b st' e Q E hQ
  cases e
  exact wpAny_tests_nil (hQ W _ s (Ext.refl ..) I rfl)
theorem ImplC.one {e : Expr} {f : Cm Bool} (h : ImplT c n sx e f) : ImplC c n sx [e] f := by
  intro p hsx hr W0 W st s hle I b st' e Q E hQ
  exact wpAny_tests_one (h p hsx hr W0 W st s hle I b st' e Q E hQ)
theorem comp_loop {p q : Pl} {I : Addr} {fp wr : List Addr} {gt : Expr → Bool} {σ : Type} {nx : σ → AS → Option (Option (AV × σ))} {J : σ → Wd → AS → Heap → Prop} (T : Itr c p.A I fp wr gt nx J) (hfp : ∀ b ∈ fp, ¬ p.Own b) (hr : Room n p.A)
    {target elt iter : Expr} {ifs : List Expr} {scope : Scope} {pos : Pos} {tgt : AV → Cm Unit} {ft : Cm Bool} {fe : Cm AV} (hg : gt target = true) (h1 : ImplA c n p.sx target tgt) (ht : ImplC c n p.sx ifs ft) (h2 : ImplE c n p.sx elt fe)
    (hb0 : ∀ b ∈ wr, c.h0.get? b = .none) (hL : ∀ b ∈ wr, b ≠ p.env.locals) (hC : ∀ b ∈ wr, ∀ y, p.env.cells.lookup y ≠ some b) (hLq : ∀ b ∈ wr, b ≠ q.env.locals) (hCq : ∀ b ∈ wr, ∀ y, q.env.cells.lookup y ≠ some b)
    (oL : ¬ p.Own q.env.locals) (oC : ∀ y a, q.env.cells.lookup y = some a → ¬ p.Own a) {own : Addr → Prop} (hown : ∀ a, p.Own a → own a)
    {W0 W : Wd} {s0 s : Shared} (I0 : ∀ b ∈ wr, s0.heap.get? b = .none) {st : AS} {loc0 : List AV} (x : Ext own W0 s0 W s) (Iv : Inv c p W st s) (Fq : FrV c q W loc0 s.heap) {K : Nat} {acc : Value} (hK : VR W acc (.lob K)) {m : Nat} {i : σ} (j : J i W st s.heap) {st' : AS} (e : compG nx tgt ft fe K m i st = some ((), st')) {R : Result → Shared → Prop}
    (hR : ∀ W' s', Ext own W0 s0 W' s' → Inv c p W' st' s' → FrV c q W' loc0 s'.heap → VR W' acc (.lob K) → R (.ok .next) s') : codeAny (model c.prog c.w) p.A (.compLoop (.ListComp elt [⟨target, iter, ifs, 0⟩] scope pos) 0 (.ref I) acc p.env) R s := by
  refine codeAny_comp_any (fun k s' => ∃ W' st1 i', Ext own W0 s0 W' s' ∧ Inv c p W' st1 s' ∧ FrV c q W' loc0 s'.heap ∧ VR W' acc (.lob K) ∧ J i' W' st1 s'.heap ∧ compG nx tgt ft fe K k i' st1 = some ((), st')) ?_ m ⟨W, st, i, x, Iv, Fq, hK, j, e⟩
  rintro k s1 ⟨W1, st1, i1, x1, Iv1, F1, hK1, j1, e1⟩
  have poke : ∀ {W : Wd} {st : AS} {s : Shared} {h' : Heap} {tk : Nat}, (∀ b ∈ wr, W.role b = .oth) → Ext own W0 s0 W s → Inv c p W st s → FrV c q W loc0 s.heap → (∀ b o, b ∉ wr → s.heap.get? b = some o → h'.get? b = some o) →
      Inv c p W st { s with heap := h', toks := tk } ∧ Ext own W0 s0 W { s with heap := h', toks := tk } ∧ FrV c q W loc0 h' := by
    intro W st s h' tk hrole x I F k
    refine ⟨⟨I.hr.grow fun b o hb e => k b o (fun q => ?_) e, I.fr.grow fun b o hb e => k b o (fun q => ?_) e⟩, ⟨x.le, fun b o e => ?_, x.oth, fun b o hm hn e => k b o (fun q => ?_) (x.kept b o hm hn e), x.gens, x.os⟩, F.grow fun b o hb e => k b o (fun q => ?_) e⟩
    · rcases hb with ⟨o', hb⟩ | hb
      · rw [hb0 b q] at hb; cases hb
      · exact hb (hrole b q)
    · rcases hb with hb | ⟨y, hb⟩
      · exact hL b q hb
      · exact hC b q y hb
    · obtain ⟨o1, e1⟩ := x.alive b o e
      exact ⟨o1, k b o1 (fun q => by rw [I0 b q] at e; cases e) e1⟩
    · rw [I0 b q] at e; cases e
    · rcases hb with hb | ⟨y, hb⟩
      · exact hLq b q hb
      · exact hCq b q y hb
  cases k with
  | zero => cases e1
  | succ k =>
    simp only [compG] at e1
    split at e1
    · cases e1
    · rename_i hnx
      cases e1
      refine wpAny_mono (T.stop i1 W1 st' s1 j1 Iv1.hr hnx (fun s2 => R (.ok .next) s2) (fun _ _ => False) fun h' tk hk => ?_) (fun q s2 hq => ?_) fun _ _ q => q
      · obtain ⟨I2, x2, F2⟩ := poke (tk := tk) (fun b hb => (T.wrOk i1 W1 st' s1.heap j1 b hb).1) x1 Iv1 F1 hk
        exact hR W1 _ x2 I2 F2 hK1
      · cases q with
        | none => exact hq
        | some => exact hq.elim
    · rename_i xv i2 hnx
      obtain ⟨u, st2, e2, e3⟩ := bd_some e1
      obtain ⟨ok, st3, e4, e5⟩ := bd_some e3
      refine wpAny_mono (T.next i1 i2 xv W1 st1 s1 target hg j1 Iv1.hr hnx (fun v s2 => wpAny (model c.prog c.w) p.A (assign target p.env v) (fun _ s₂ =>
          wpAny (model c.prog c.w) p.A (forIn ifs true fun c r => if r = true then do let ok ← isTrue c p.env (eval c p.env); pure (ForInStep.yield ok) else pure (ForInStep.yield r)) (fun ok s₃ =>
            if ok = true then wpAny (model c.prog c.w) p.A (eval elt p.env) (fun x s₄ =>
              wpAny (model c.prog c.w) p.A (call (.builtin "list.append") [acc, x]) (fun _ s₅ => ∃ m, m < k + 1 ∧ ∃ W' st1 i', Ext own W0 s0 W' s₅ ∧ Inv c p W' st1 s₅ ∧ FrV c q W' loc0 s₅.heap ∧ VR W' acc (.lob K) ∧ J i' W' st1 s₅.heap ∧ compG nx tgt ft fe K m i' st1 = some ((), st')) (fun _ _ => False) s₄) (fun _ _ => False) s₃
            else ∃ m, m < k + 1 ∧ ∃ W' st1 i', Ext own W0 s0 W' s₃ ∧ Inv c p W' st1 s₃ ∧ FrV c q W' loc0 s₃.heap ∧ VR W' acc (.lob K) ∧ J i' W' st1 s₃.heap ∧ compG nx tgt ft fe K m i' st1 = some ((), st')) (fun _ _ => False) s₂) (fun _ _ => False) s2) (fun _ _ => False) fun W2 v h' tk hN rv j2 hk => ?_) (fun q s2 hq => ?_) fun _ _ q => q
      · obtain ⟨Ia, xa, Fa⟩ := poke (tk := tk) (fun b hb => (T.wrOk i1 W1 st1 s1.heap j1 b hb).1) x1 Iv1 F1 hk
        have N2 : Inv c p W2 st1 { s1 with heap := h', toks := tk } ∧ Ext own W0 s0 W2 { s1 with heap := h', toks := tk } ∧ FrV c q W2 loc0 h' ∧ Le W1 W2 := by
          rcases hN with rfl | ⟨T0, o, hT, hT', rfl⟩
          · exact ⟨Ia, xa, Fa, Le.refl _⟩
          · have hro := Iv1.hr.oth_of_none hT
            refine ⟨Ia.newFrz hro hT' (fun z => ?_) (fun y z => ?_), ⟨xa.le.trans (Le.set hro), xa.alive, fun b o e z => ?_, xa.kept, xa.gens, xa.os⟩, Fa.mono (Le.set hro) ?_ (fun y a z => ?_), Le.set hro⟩
            · obtain ⟨ml, ⟨o1, es, ep, ho, _⟩, _⟩ := Iv1.fr.ns
              rw [← z, hT] at ho; cases ho
            · obtain ⟨v', o1, ho, _⟩ := Iv1.fr.cells y T0 z
              rw [hT] at ho; cases ho
            · rw [Wd.set_other]
              · exact xa.oth b o e z
              · intro z'
                obtain ⟨o1, e1⟩ := x1.alive b o e
                rw [z', hT] at e1; cases e1
            · rw [Wd.set_other]
              · exact F1.roleL
              · intro z
                obtain ⟨ml, ⟨o1, es, ep, ho, _⟩, _⟩ := F1.ns
                rw [z, hT] at ho; cases ho
            · rw [Wd.set_other]
              · exact (F1.roleC y a z).1
              · intro z'
                obtain ⟨v', o1, ho, _⟩ := F1.cells y a z
                rw [z', hT] at ho; cases ho
        obtain ⟨I2, x2, F2, le2⟩ := N2
        refine h1 p rfl hr W2 v xv rv W2 st1 _ (Le.refl _) I2 u st2 e2 _ _ fun W3 _ s3 x3 I3 _ => ?_
        have j3 := T.frame p.Own i2 W2 W3 st1 st2 { s1 with heap := h', toks := tk } s3 hfp j2 I2.hr x3 I3.hr
        have F3 := F2.ext x3 oL oC
        refine ht p rfl hr W3 W3 st2 s3 (Le.refl _) I3 ok st3 e4 _ _ fun W4 ok' s4 x4 I4 r4 => ?_
        subst r4
        have j4 := T.frame p.Own i2 W3 W4 st2 st3 s3 s4 hfp j3 I3.hr x4 I4.hr
        have F4 := F3.ext x4 oL oC
        have xx := (x2.trans (x3.weaken hown)).trans (x4.weaken hown)
        have hK4 := ((hK1.mono le2).mono x3.le).mono x4.le
        cases ok' with
        | false =>
          rw [if_neg Bool.false_ne_true] at e5 ⊢
          exact ⟨k, Nat.lt_succ_self _, W4, st3, i2, xx, I4, F4, hK4, j4, e5⟩
        | true =>
          rw [if_pos rfl] at e5 ⊢
          obtain ⟨vv, st5, e6, e7⟩ := bd_some e5
          obtain ⟨vn, st6, e8, e9⟩ := bd_some e7
          refine h2 p rfl hr W4 W4 st3 s4 (Le.refl _) I4 vv st5 e6 _ _ fun W5 v5 s5 x5 I5 r5 => ?_
          have j5 := T.frame p.Own i2 W4 W5 st3 st5 s4 s5 hfp j4 I4.hr x5 I5.hr
          have F5 := F4.ext x5 oL oC
          refine append_ok (n := n) p hr W5 acc (.lob K) [v5] [vv] (hK4.mono x5.le) (.cons r5 .nil) W5 st5 s5 (Le.refl _) I5 vn st6 e8 _ _ fun W6 v6 s6 x6 I6 r6 => ?_
          have j6 := T.frame p.Own i2 W5 W6 st5 st6 s5 s6 hfp j5 I5.hr x6 I6.hr
          exact ⟨k, Nat.lt_succ_self _, W6, st6, i2, (xx.trans (x5.weaken hown)).trans (x6.weaken hown), I6, F5.ext x6 oL oC, (hK4.mono x5.le).mono x6.le, j6, e9⟩
      · cases q with
        | none => exact hq.elim
        | some v => exact hq
end
end Mine

namespace Mine

section
variable {c : Cx} {n : Nat} {sx : Sx}

noncomputable def capsL (caps : List Nat) (loc : List AV) : List AV := caps.map fun i => (loc[i]?).getD .unb
noncomputable def compM {σ : Type} (k : Nat) (caps : List Nat) (f : Cm σ) (size : σ → AS → Nat) (nx : σ → AS → Option (Option (AV × σ))) (tgt : AV → Cm Unit) (ft : Cm Bool) (fe : Cm AV) : Cm AV := bd f fun i st =>
  match compG nx tgt ft fe st.nl (size i st) i ⟨List.replicate k .unb ++ capsL caps st.loc, st.ins, pushL1 st.nl [] st.lst, st.nl + 1⟩ with
  | some (_, st') => some (.lob st.nl, { st' with loc := st.loc })
  | .none => .none
theorem comp_out {p : Pl} {C : Addr} {W W' : Wd} {s s' : Shared} {st : AS} (hC0 : s.heap.get? C = .none) (hCr : W'.role C = .oth) (hCb : c.h0.get? C = .none) (hcC : ∀ y a, p.env.cells.lookup y = some a → a ≠ C) (hLC : p.env.locals ≠ C)
    (x : Ext (fun a => p.Own a ∨ a = C) W s W' s') (I : Inv c p W' st s') {h' : Heap} (hs : Heap.SameBut C s'.heap h') : Ext p.Own W s W' { s' with heap := h' } ∧ Inv c p W' st { s' with heap := h' } := by
  refine ⟨⟨x.le, fun a o q => ?_, x.oth, fun a o hm hn q => ?_, x.gens, x.os⟩, ⟨I.hr.grow fun b o hb q => hs.extBut b o (fun z => ?_) q, I.fr.grow fun b o hb q => hs.extBut b o (fun z => ?_) q⟩⟩
  · obtain ⟨o1, z⟩ := x.alive a o q
    exact ⟨o1, hs.extBut a o1 (fun w => by rw [w, hC0] at q; cases q) z⟩
  · have hne : a ≠ C := fun w => by rw [w, hC0] at q; cases q
    exact hs.extBut a o hne (x.kept a o hm (fun w => w.elim hn hne) q)
  · subst z
    rcases hb with ⟨o', hb⟩ | hb
    · rw [hCb] at hb; cases hb
    · exact hb hCr
  · rcases hb with hb | ⟨y, hb⟩
    · exact hLC (hb ▸ z)
    · exact hcC y b hb z
end
end Mine

namespace Mine

section
variable {c : Cx} {n : Nat} {sx : Sx}

theorem items_hr {W : Wd} {st st' : AS} {h : Heap} (H : HR c W st h) {v : Value} {x : AV} {xs : List AV} (hv : VR W v x) (e : itemsM x st = some (xs, st')) :
    ∃ a vs m, v = .ref a ∧ h.get? a = some (listOf vs.toArray m) ∧ VRs W vs xs := by
  cases hv with
  | lst h r => simp only [itemsM] at e; cases e; exact ⟨_, _, _, rfl, H.frz _ _ h, r⟩
  | lob k hk =>
    simp only [itemsM] at e
    split at e
    · rename_i ys hy
      cases e
      obtain ⟨_, _, vs, m, h3, h4⟩ := H.lobAt hy
      exact ⟨_, vs, m, rfl, h3, h4⟩
    · cases e
  | _ => simp only [itemsM] at e; cases e
noncomputable def nxA : AV × Nat → AS → Option (Option (AV × (AV × Nat))) := fun i st => match itemsM i.1 st with
  | some (xs, _) => (match xs[i.2]? with | some y => some (some (y, (i.1, i.2 + 1))) | .none => some .none)
  | .none => .none
noncomputable def sizeA : AV × Nat → AS → Nat := fun i st => match itemsM i.1 st with
  | some (xs, _) => xs.length + 1
  | .none => 0
structure JA (it : Addr) (i : AV × Nat) (W : Wd) (st : AS) (h : Heap) : Prop where
  at_ : ∃ l, VR W (.ref l) i.1 ∧ h.IsListIter it l i.2
  io : W.role it = .oth
theorem any_itr {A : Around} (hr : Room n A) {it : Addr} : Itr c A it [it] [it] goesT nxA (JA it) where
  alive := fun i W st h j b hb => by
    obtain ⟨l, _, o, h7, _⟩ := j.at_
    rw [List.mem_singleton.mp hb]; exact ⟨_, h7⟩
  frame := fun own i W W' st st' s s' hno j H x H' => by
    obtain ⟨l, h1, o, h7, h8⟩ := j.at_
    have mi : ¬ W.Mut it := by unfold Wd.Mut; rw [j.io]; exact fun q => q
    exact ⟨⟨l, h1.mono x.le, o, x.kept _ _ mi (hno _ List.mem_cons_self) h7, h8⟩, x.oth _ _ h7 j.io⟩
  wrOk := fun i W st h j b hb => by
    obtain ⟨l, _, o, h7, _⟩ := j.at_
    rw [List.mem_singleton.mp hb]; exact ⟨j.io, _, h7⟩
  next := fun i i' x W st s tgt hg j H e Q E hQ => by
    obtain ⟨l, h1, hit⟩ := j.at_
    simp only [nxA] at e
    split at e
    · rename_i xs q he
      split at e
      · rename_i y hy
        cases e
        obtain ⟨a, vs, m, ha, hg', hvs⟩ := items_hr H h1 he
        cases ha
        have L : s.heap.IsList l vs.toArray := ⟨_, hg', rfl, _, rfl⟩
        obtain ⟨v, hv, rv⟩ := hvs.get hy
        refine wpAny_pyNext_list_item hit L (by rw [List.getElem?_toArray]; exact hv) fun h' hit' hs' => ?_
        refine go_listiter hg hit' ?_
        refine hQ W v h' s.toks (.inl rfl) rv ⟨⟨l, h1, hit'⟩, j.io⟩ fun b o hb e => hs'.extBut b o (fun z => hb (by rw [z]; exact List.mem_cons_self)) e
      · cases e
    · cases e
  stop := fun i W st s j H e Q E hQ => by
    obtain ⟨l, h1, hit⟩ := j.at_
    simp only [nxA] at e
    split at e
    · rename_i xs q he
      split at e
      · cases e
      · rename_i hy
        obtain ⟨a, vs, m, ha, hg', hvs⟩ := items_hr H h1 he
        cases ha
        have L : s.heap.IsList l vs.toArray := ⟨_, hg', rfl, _, rfl⟩
        refine wpAny_pyNext_list_end hr.1 hit L (by rw [List.getElem?_toArray]; rw [List.getElem?_eq_none_iff] at hy ⊢; rw [hvs.length]; exact hy) fun h' hk => ?_
        exact hQ h' s.toks fun b o hb e => hk b o (fun z => hb (by rw [z]; exact List.mem_cons_self)) e
    · cases e
  self := fun i W st s j Q E hQ => by
    obtain ⟨l, h1, hit⟩ := j.at_
    exact wpAny_pyIter_listiter hit hQ
noncomputable def anyIt : AV → Cm (AV × Nat) := fun x st => match itemsM x st with
  | some _ => some ((x, 0), st)
  | .none => .none
theorem ImplI.any {e : Expr} {f : Cm AV} (h : ImplE c n sx e f) : ImplI c n sx e goesT (bd f anyIt) nxA := by
  intro p hsx hr W st s I i st' e Q E hQ
  obtain ⟨x, st1, e1, e2⟩ := bd_some e
  refine h p hsx hr W W st s (Le.refl _) I x st1 e1 _ E fun W1 v s1 x1 I1 r1 => ?_
  unfold anyIt at e2
  split at e2
  · rename_i q he
    cases e2
    obtain ⟨xs, q⟩ := q
    obtain ⟨a, vs, m, ha, hg, hvs⟩ := items_hr I1.hr r1 he
    subst ha
    have L : s1.heap.IsList a vs.toArray := ⟨_, hg, rfl, _, rfl⟩
    have hn : s1.heap.get? s1.heap.objs.size = .none := get_none_of_ge (Nat.le_refl _)
    refine wpAny_pyIter_list L ?_
    have k2 : ∀ b o, s1.heap.get? b = some o → (s1.heap.push { cls := .type "list_iterator", data := .fields #[.ref a, .int 0 0] }).get? b = some o := fun _ _ e => Heap.get?_push_of_some _ e
    have x2 : Ext p.Own W1 s1 W1 { s1 with heap := s1.heap.push { cls := .type "list_iterator", data := .fields #[.ref a, .int 0 0] } } := Ext.keeps _ _ k2 rfl rfl
    refine hQ W1 _ s1.heap.objs.size [s1.heap.objs.size] [s1.heap.objs.size] _ (x1.trans x2) (I1.keeps k2) (any_itr hr) ⟨⟨a, r1, ⟨_, Heap.get?_push_size _ rfl, rfl, rfl⟩⟩, I1.hr.oth_of_none hn⟩ (fun b hb => ?_) (fun b hb => by rw [List.mem_singleton.mp hb]; exact I1.fresh_own hn)
    rw [List.mem_singleton.mp hb]
    cases z : s.heap.get? s1.heap.objs.size with
    | none => rfl
    | some o => obtain ⟨o1, z1⟩ := x1.alive _ o z; rw [hn] at z1; cases z1
  · cases e2
end
end Mine

namespace Mine

section
variable {c : Cx} {n : Nat} {sx : Sx}

noncomputable def mulM : AV → AV → Cm AV := fun x y => match x with
  | .str a => (match y with | .int k => if 0 ≤ k ∧ k ≤ 1000 ∧ a.length ≤ 1000 then pu (.str (Txt.mul a k)) else no | _ => no)
  | .bytes b => (match y with | .int k => if b.toList ≠ [] ∧ b.size ≤ 16 ∧ 0 ≤ k ∧ k ≤ 1000 then pu (.bytes (List.replicate k.toNat b.toList).flatten.toArray) else no | _ => no)
  | x => mulLM x y
theorem mul_ok : OkBin c n .Mult mulM := by
  intro p hr W0 a b x y ha hb W st s hle I v st' e Q E hQ
  have lists : mulLM x y st = some (v, st') → wpAny (model c.prog c.w) p.A (binaryOp .Mult a b) Q E s := fun e => mulL_ok p hr W0 a b x y ha hb W st s hle I v st' e Q E hQ
  cases ha with
  | str i t =>
    cases hb with
    | int k u =>
      simp only [mulM] at e
      split at e
      · rename_i hk
        cases e
        refine SB.mul (mulOk_of 1000 1000 hk.2.2 (by omega) (by omega) (by omega) (by omega)) fun t' k' => ?_
        exact hQ W _ _ ((Ext.refl ..).toks _) (I.toks _) (.str _ _)
      · cases e
    | _ => cases e
  | bytes i t =>
    cases hb with
    | int k u =>
      simp only [mulM] at e
      split at e
      · rename_i hk
        cases e
        obtain ⟨h1, h2, h3, h4⟩ := hk
        have := bytes_mul_any (prog := c.prog) (w := c.w) (A := p.A) (E := E) (s := s) (b := i.toList) (n := k) (t := t) (u := u) (Q := Q) h1 (by omega) (by omega) (by simpa using h2) fun t' k' => hQ W _ _ ((Ext.refl ..).toks _) (I.toks _) (.bytes _ _)
        simpa using this
      · cases e
    | _ => cases e
  | _ => exact lists e
noncomputable def intsOf : List AV → Option (List Int)
  | [] => some []
  | .int i :: r => (match intsOf r with | some ns => some (i :: ns) | .none => .none)
  | _ :: _ => .none
theorem intsOf_are {W : Wd} : ∀ {vs : List Value} {xs : List AV} {ns : List Int}, VRs W vs xs → intsOf xs = some ns → IntsAre vs ns
  | _, _, _, .nil, h => by cases h; exact .nil
  | _, _, _, .cons a r, h => by
    cases a with
    | int i t =>
      simp only [intsOf] at h
      split at h
      · rename_i ns e; cases h; exact .cons _ _ (intsOf_are r e)
      · cases h
    | _ => cases h
noncomputable def bytesM : List AV → Cm AV := fun xs st => match xs with
  | [x] => (match itemsM x st with
    | some (ys, _) => (match intsOf ys with
      | some ns => if ys.length ≤ 100000 ∧ (ns.all fun k => decide (0 ≤ k ∧ k < 256)) = true then some (.bytes (byteArr ns), st) else .none
      | .none => .none)
    | .none => .none)
  | _ => .none
theorem bytes_ok : OkCall c n (.type "bytes") bytesM := by
  intro p hr W0 vs xs hv W st s hle I b st' e Q E hQ
  cases hv.mono hle with
  | nil => cases e
  | cons ha hr' =>
    cases hr' with
    | cons => cases e
    | nil =>
      simp only [bytesM] at e
      split at e
      · rename_i ys q he
        split at e
        · rename_i ns hn
          split at e
          · rename_i hk
            cases e
            obtain ⟨a, us, m, ha', hg, hvs⟩ := items_hr I.hr ha he
            subst ha'
            refine call_bytes_ints (vs := us) (ns := ns) ⟨_, hg, rfl, _, rfl⟩ (intsOf_are hvs hn) (fun k hk' => by simpa using List.all_eq_true.mp hk.2 k hk') (by rw [hvs.length, sizeLine_eq]; omega) hr.1 fun h' t tk kk => ?_
            exact hQ W _ _ (Ext.keeps _ _ kk rfl rfl) (I.keeps kk) (.bytes _ _)
          · cases e
        · cases e
      · cases e
end
end Mine

namespace Mine

section
variable {c : Cx} {n : Nat} {sx : Sx}

end
end Mine

namespace Mine

section
variable {c : Cx} {n : Nat} {sx : Sx}

noncomputable def frzE (f : Cm AV) : Cm AV := fun st => match f { st with lst := [] :: st.lst } with
  | some (v, st1) => (match st1.lst with
    | seg :: r => some (frzV seg v, { st1 with lst := r })
    | [] => .none)
  | .none => .none
theorem Inv.seg {p : Pl} {W : Wd} {st : AS} {s : Shared} (I : Inv c p W st s) : Inv c p W { st with lst := [] :: st.lst } s := by
  refine ⟨⟨I.hr.keep, I.hr.mutA, I.hr.lt, I.hr.frz, I.hr.ni, I.hr.nl, I.hr.iaR, I.hr.insA, fun g hg q hq => ?_, ?_⟩, I.fr⟩
  · rcases List.mem_cons.mp hg with z | hg
    · subst z; cases hq
    · exact I.hr.lstA g hg q hq
  · show ((([] : List (Nat × List AV)) ++ st.lst.flatten).map (·.1)).Nodup
    exact I.hr.nodup
theorem freeze_oth {W : Wd} {seg : List (Nat × List AV)} {h : Heap} {a : Addr} (z : W.role a = .oth) : (W.freeze seg h).role a = .oth := by
  rw [freeze_role (by intro k zz; rw [z] at zz; cases zz)]; exact z
theorem Inv.unseg {p : Pl} {W : Wd} {st : AS} {s : Shared} {seg : List (Nat × List AV)} {r : LH} (I : Inv c p W st s) (e : st.lst = seg :: r) : Inv c p (W.freeze seg s.heap) { st with lst := r } s :=
  ⟨I.hr.freezeSeg e, I.fr.mono (Le.freeze ..) (freeze_oth I.fr.roleL) fun x a q => freeze_oth (I.fr.roleC x a q).1⟩
theorem Ext.unseg {own : Addr → Prop} {W W' : Wd} {s s' : Shared} {seg : List (Nat × List AV)} (x : Ext own W s W' s') : Ext own W s (W'.freeze seg s'.heap) s' :=
  ⟨x.le.trans (Le.freeze ..), x.alive, fun a o q z => freeze_oth (x.oth a o q z), x.kept, x.gens, x.os⟩
theorem ImplE.frz {e : Expr} {f : Cm AV} (h : ImplE c n sx e f) : ImplE c n sx e (frzE f) := by
  intro p hsx hr W0 W st s hle I b st' e Q E hQ
  unfold frzE at e
  split at e
  · rename_i v st1 e1
    split at e
    · rename_i seg r hseg
      cases e
      refine h p hsx hr W W _ s (Le.refl _) I.seg v st1 e1 Q E fun W1 val s1 x1 I1 r1 => ?_
      exact hQ _ val s1 x1.unseg (I1.unseg hseg) (frzV_ok I1.hr hseg r1)
    · cases e
  · cases e
theorem frzV_unb {seg : List (Nat × List AV)} {v : AV} (h : frzV seg v ≠ .unb) : v ≠ .unb := fun q => h (by subst q; rfl)
theorem FrV.frzAt {p : Pl} {W : Wd} {st : AS} {h : Heap} {seg : List (Nat × List AV)} {r : LH} {i : Nat} {v : AV} (H : HR c W st h) (e : st.lst = seg :: r) (F : FrV c p (W.freeze seg h) st.loc h) (F0 : FrV c p W st.loc h) (hi : st.loc[i]? = some v) :
    FrV c p (W.freeze seg h) (st.loc.set i (frzV seg v)) h := by
  obtain ⟨ml, hns, hml⟩ := F.ns
  obtain ⟨ml0, hns0, hml0⟩ := F0.ns
  refine ⟨?_, fun j y u h1 h2 h3 h4 => ?_, F.cells, F.hasCell, F.kinds, F.apart, F.wcIn, F.roleL, F.roleC, F.lo, F.scope, F.kind, F.globals, F.builtins, F.nodup⟩
  · refine ⟨ml0, hns0, fun j y u h1 h2 h3 h4 => ?_⟩
    simp only [List.getElem?_set] at h2
    by_cases hij : i = j
    · subst hij
      rw [if_pos rfl] at h2
      split at h2
      · cases h2
        obtain ⟨val, e1, r1⟩ := hml0 i y v h1 hi (frzV_unb h3) h4
        exact ⟨val, e1, frzV_ok H e r1⟩
      · cases h2
    · rw [if_neg hij] at h2
      obtain ⟨val, e1, r1⟩ := hml0 j y u h1 h2 h3 h4
      exact ⟨val, e1, r1.mono (Le.freeze ..)⟩
  · simp only [List.getElem?_set] at h2
    by_cases hij : i = j
    · subst hij
      rw [if_pos rfl] at h2
      split at h2
      · cases h2
        obtain ⟨val, a, e1, q, r1⟩ := F0.cl i y v h1 hi (frzV_unb h3) h4
        exact ⟨val, a, e1, q, frzV_ok H e r1⟩
      · cases h2
    · rw [if_neg hij] at h2
      exact F.cl j y u h1 h2 h3 h4
noncomputable def frzS (i : Nat) (f : Cm AF) : Cm AF := fun st => match f { st with lst := [] :: st.lst } with
  | some (.next, st1) => (match st1.lst, st1.loc[i]? with
    | seg :: r, some v => some (.next, { st1 with lst := r, loc := st1.loc.set i (frzV seg v) })
    | _, _ => .none)
  | _ => .none
theorem ImplS1.frz {t : Stmt} {f : Cm AF} {i : Nat} (h : ImplS1 c n sx t f) : ImplS1 c n sx t (frzS i f) := by
  intro p hsx hr W0 W st s hle I b st' e Q E hQ
  unfold frzS at e
  split at e
  · rename_i st1 e1
    split at e
    · rename_i seg r v hseg hi
      cases e
      refine h p hsx hr W W _ s (Le.refl _) I.seg .next st1 e1 Q E fun W1 fl s1 x1 I1 r1 => ?_
      have I2 := I1.unseg hseg
      refine hQ _ fl s1 x1.unseg ⟨I2.hr.loc _, FrV.frzAt I1.hr hseg I2.fr I1.fr hi⟩ ?_
      cases r1; exact .next
    · cases e
  · cases e
end
end Mine

namespace Mine

section
variable {c : Cx} {n : Nat} {sx : Sx}

noncomputable def heads : List (List AV) → Option (List AV × List (List AV))
  | [] => some ([], [])
  | xs :: r => (match xs, heads r with
    | x :: t, some (hs, ts) => some (x :: hs, t :: ts)
    | _, _ => .none)
noncomputable def nxZ : List (List AV) → AS → Option (Option (AV × List (List AV))) := fun ls _ => match heads ls with
  | some (hs, ts) => some (some (.tup hs, ts))
  | .none => some .none
noncomputable def sizeZ : List (List AV) → AS → Nat := fun ls _ => (ls.headD []).length + 1
theorem heads_app : ∀ (a b : List (List AV)) {hs : List AV} {ts : List (List AV)}, heads a = some (hs, ts) → heads (a ++ b) = match heads b with | some (hs', ts') => some (hs ++ hs', ts ++ ts') | .none => .none
  | [], b, _, _, h => by
    cases h
    rw [List.nil_append]
    cases heads b with
    | none => rfl
    | some p => rfl
  | xs :: r, b, hs, ts, h => by
    unfold heads at h
    split at h
    · rename_i x t hs' ts' e
      cases h
      have ih := heads_app r b e
      rw [List.cons_append]
      simp only [heads, ih]
      cases heads b with
      | none => rfl
      | some p => rfl
    · cases h
theorem heads_len : ∀ {ls : List (List AV)} {hs : List AV} {ts : List (List AV)}, heads ls = some (hs, ts) → hs.length = ts.length
  | [], _, _, h => by cases h; rfl
  | xs :: r, hs, ts, h => by
    unfold heads at h
    split at h
    · rename_i e
      cases h
      rw [List.length_cons, List.length_cons, heads_len e]
    · cases h
inductive ZR (W : Wd) (h : Heap) : List Addr → List (List AV) → Prop
  | nil : ZR W h [] []
  | cons {it l : Addr} {vs us : List Value} {m : Nat} {xs : List AV} {its : List Addr} {ls : List (List AV)} : W.role l = .frz (listOf (vs ++ us).toArray m) → VRs W us xs → h.IsListIter it l vs.length → ZR W h its ls → ZR W h (it :: its) (xs :: ls)
theorem ZR.at {W W' : Wd} {h h' : Heap} (L : Le W W') : ∀ {its : List Addr} {ls : List (List AV)}, ZR W h its ls → (∀ a ∈ its, ∀ o, h.get? a = some o → h'.get? a = some o) → ZR W' h' its ls
  | _, _, .nil, _ => .nil
  | _, _, .cons h1 h2 ⟨o, h3, h4⟩ r, k => .cons (L.frz _ _ h1) (h2.mono L) ⟨o, k _ List.mem_cons_self o h3, h4⟩ (ZR.at L r fun a ha => k a (List.mem_cons_of_mem _ ha))
theorem ZR.alive {W : Wd} {h : Heap} : ∀ {its : List Addr} {ls : List (List AV)}, ZR W h its ls → ∀ a ∈ its, ∃ o, h.get? a = some o
  | _, _, .nil, _, h => by cases h
  | _, _, .cons h1 h2 ⟨o, h3, h4⟩ r, a, ha => by
    rcases List.mem_cons.mp ha with rfl | ha
    · exact ⟨o, h3⟩
    · exact r.alive a ha
theorem ZR.length {W : Wd} {h : Heap} : ∀ {its : List Addr} {ls : List (List AV)}, ZR W h its ls → its.length = ls.length
  | _, _, .nil => rfl
  | _, _, .cons h1 h2 h3 r => by rw [List.length_cons, List.length_cons, r.length]
theorem ZR.app {W : Wd} {h : Heap} : ∀ {a b : List Addr} {x y : List (List AV)}, ZR W h a x → ZR W h b y → ZR W h (a ++ b) (x ++ y)
  | _, _, _, _, .nil, k => k
  | _, _, _, _, .cons h1 h2 h3 r, k => .cons h1 h2 h3 (r.app k)
abbrev TupAt (h : Heap) (T : Addr) (vs : List Value) : Prop := h.get? T = some { cls := .type "tuple", data := .seq vs.toArray }
theorem forIn_list {M : Model} {A : Around} {E : Value → Shared → Prop} {α β : Type} {f : α → β → Sem (ForInStep β)} (I : List α → β → Shared → Prop) {Q : β → Shared → Prop}
    (step : ∀ a r b s, I (a :: r) b s → wpAny M A (f a b) (fun x s' => match x with | .yield b' => I r b' s' | .done b' => Q b' s') E s) (fin : ∀ b s, I [] b s → Q b s) :
    ∀ (l : List α) (b : β) (s : Shared), I l b s → wpAny M A (forIn l b f) Q E s
  | [], b, s, h => by rw [List.forIn_nil]; exact wpAny_pure (fin b s h)
  | a :: r, b, s, h => by
    rw [List.forIn_cons]
    refine wpAny_bind (wpAny_mono (step a r b s h) (fun x s' q => ?_) fun _ _ q => q)
    cases x with
    | yield b' => exact forIn_list I step fin r b' s' q
    | done b' => exact wpAny_pure q
theorem set_take {vs ws : List Value} {v : Value} {k : Nat} (hk : k < vs.length) (h : vs.take k = ws) : (vs.set k v).take (k + 1) = ws ++ [v] := by
  rw [List.take_add_one, List.take_set_of_le (Nat.le_refl _), h, List.getElem?_set_self hk]; rfl
theorem zip_next {A : Around} {E : Value → Shared → Prop} {s : Shared} {W : Wd} {st : AS} {z TI TO : Addr} {its : List Addr} {ls : List (List AV)} {kept : List Value} {Q : Value → Shared → Prop} (hh : A.handled = none) (H : HR c W st s.heap)
    (h0 : its ≠ []) (hz : IsZip s.heap z TI TO .none) (hTI : TupAt s.heap TI (its.map .ref)) (hTO : TupAt s.heap TO kept) (hlen : kept.length = its.length) (hZ : ZR W s.heap its ls) (hsz : its.length ≤ 1000)
    (nz : z ≠ TO) (nzi : z ∉ its) (nTi : TO ∉ its) (nd : its.Nodup) (rz : W.role z = .oth) (rT : W.role TO = .oth) (ri : ∀ a ∈ its, W.role a = .oth)
    (hQ : ∀ hs ts, heads ls = some (hs, ts) → ∀ h' vs, VRs W vs hs → IsZip h' z TI TO (rawInt s.heap.objs.size) → TupAt h' TO vs → TupAt h' s.heap.objs.size vs → ZR W h' its ts →
      (∀ a o, a ≠ z → a ≠ TO → a ∉ its → s.heap.get? a = some o → h'.get? a = some o) → Q (.ref s.heap.objs.size) { s with heap := h' })
    (hE : heads ls = .none → ∀ h' e, (∀ a o, a ≠ z → a ≠ TO → a ∉ its → s.heap.get? a = some o → h'.get? a = some o) → (∃ o, h'.get? e = some o ∧ o.cls = .type "StopIteration") → E (.ref e) { s with heap := h' }) :
    wpAny (model c.prog c.w) A (Builtin.«zip.__next__» ⟨[.ref z], []⟩) (fun fin s' => ∃ v, fin = .done (.ret v) ∧ Q v s') E s := by
  show wpAny _ _ (field (.ref z) 2 >>= _) _ _ _
  refine wpAny_bind (wpAny_field hz rfl (x := .bool false) rfl ?_)
  show wpAny _ _ (field (.ref z) 3 >>= _) _ _ _
  refine wpAny_bind (wpAny_field hz rfl (x := .ref TI) rfl ?_)
  refine wpAny_bind (wpAny_seqItems hTI rfl ?_)
  dsimp only
  rw [if_neg (by
    cases its with
    | nil => exact absurd rfl h0
    | cons a r => simp)]
  show wpAny _ _ (Builtin.SmallTypes.ownedTupleIsFree (.ref z) >>= _) _ _ _
  refine wpAny_bind ?_
  unfold Builtin.SmallTypes.ownedTupleIsFree
  refine wpAny_bind (wpAny_field hz rfl (x := .none) rfl (wpAny_pure ?_))
  simp only [if_true]
  refine wpAny_bind (wpAny_rule ?_)
  refine wpAny_bind (wpAny_field hz rfl (x := .ref TO) rfl ?_)
  refine wpAny_bind (wpAny_setField_rec hz (by simp) fun h₁ hz₁ hs₁ => ?_)
  replace hz₁ : IsZip h₁ z TI TO .ellipsis := hz₁
  refine wpAny_bind (forIn_list (fun rest r s' => r.1 = none ∧ ∃ done todo dl tl hd td ws kp h', s' = { s with heap := h' } ∧ its = done ++ todo ∧ ls = dl ++ tl ∧ rest = (todo.map Value.ref).zipIdx done.length ∧ heads dl = some (hd, td) ∧ VRs W ws hd ∧
    kp.length = its.length ∧ kp.take done.length = ws ∧ IsZip h' z TI TO .ellipsis ∧ TupAt h' TO kp ∧ ZR W h' done td ∧ ZR W h' todo tl ∧ h'.objs.size = s.heap.objs.size ∧ (∀ a o, a ≠ z → a ≠ TO → a ∉ its → s.heap.get? a = some o → h'.get? a = some o))
    (fun a r b s' hI => ?_) (fun b s' hI => ?_) _ _ _ ?_)
  · obtain ⟨hb, done, todo, dl, tl, hd, td, ws, kp, h', rfl, hits, hls, hrest, hheads, hws, hkl, hkt, hz', hTO', hZd, hZt, hsz', hk'⟩ := hI
    cases hZt with
    | nil => cases hrest
    | @cons it l vs us m xs todo' tl' hrole hvs hit hZr =>
      rw [List.map_cons, List.zipIdx_cons] at hrest
      cases hrest
      have hmem : it ∈ its := by rw [hits]; exact List.mem_append_right _ List.mem_cons_self
      have hL : h'.IsList l (vs ++ us).toArray := by
        refine ⟨_, hk' l _ (fun q => ?_) (fun q => ?_) (fun q => ?_) (H.frz _ _ hrole), rfl, _, rfl⟩
        · rw [q, rz] at hrole; cases hrole
        · rw [q, rT] at hrole; cases hrole
        · rw [ri l q] at hrole; cases hrole
      have hz_it : z ≠ it := fun q => nzi (q ▸ hmem)
      have hT_it : TO ≠ it := fun q => nTi (q ▸ hmem)
      refine wpAny_bind (wpAny_onRaise ?_)
      show wpAny _ _ (Builtin.SmallTypes.nextOf (.ref it) >>= _) _ _ _
      cases hvs with
      | nil =>
        have hx : (vs ++ ([] : List Value)).toArray[vs.length]? = none := by rw [List.append_nil, List.getElem?_toArray]; exact List.getElem?_eq_none (Nat.le_refl _)
        refine wpAny_bind (wpAny_nextOf_list_end hh hit hL hx fun h₂ e hs₂ he => ?_)
        obtain ⟨oe, hoe, hce⟩ := he
        have hz₂ : IsZip h₂ z TI TO .ellipsis := hs₂ _ _ hz_it hz'
        have hez : e ≠ z := fun x => by subst x; rw [hz₂] at hoe; cases hoe; simp at hce
        refine wpAny_setField_rec hz₂ (by simp) fun h₃ _ hs₃ => hE ?_ h₃ e (fun a o c1 c2 c3 x => hs₃.extBut _ _ c1 (hs₂ _ _ (fun q => c3 (q ▸ hmem)) (hk' a o c1 c2 c3 x))) ⟨oe, hs₃.extBut _ _ hez hoe, hce⟩
        rw [hls, heads_app dl _ hheads]
        simp only [heads]
      | @cons v us x xs hv hvs =>
        have hx : (vs ++ v :: us).toArray[vs.length]? = some v := by rw [List.getElem?_toArray, List.getElem?_append_right (Nat.le_refl _), Nat.sub_self]; rfl
        refine wpAny_bind (wpAny_nextOf_list_item hit hL hx fun h₂ hit₂ hs₂ => wpAny_pure ?_)
        have hTO₂ : TupAt h₂ TO kp := hs₂.extBut _ _ hT_it hTO'
        refine wpAny_bind (wpAny_seqItems hTO₂ rfl ?_)
        have hdl : done.length < kp.length := by rw [hkl, hits]; simp
        refine wpAny_bind (wpAny_updateSeq hTO₂ rfl ?_ (by rw [List.size_toArray, sizeLine_eq, hkl]; omega) (by rw [Array.size_setIfInBounds, List.size_toArray, sizeLine_eq, hkl]; omega))
        have hs₃ : Heap.SameBut TO h₂ (h₂.update TO (Obj.mapSeq (·.setIfInBounds done.length v))) := Heap.SameBut.update ..
        have hTO₃ : TupAt (h₂.update TO (Obj.mapSeq (·.setIfInBounds done.length v))) TO (kp.set done.length v) := by
          unfold TupAt
          rw [Heap.get?_update_self _ hTO₂ rfl]
          simp [Obj.mapSeq]
        refine wpAny_bind (wpAny_letGo (wpAny_pure ?_))
        have nd' := nd
        rw [hits] at nd'
        have nd2 := List.nodup_append.mp nd'
        refine ⟨rfl, done ++ [it], todo', dl ++ [x :: xs], tl', hd ++ [x], td ++ [xs], ws ++ [v], kp.set done.length v, _, rfl, by rw [hits]; simp, by rw [hls]; simp, by rw [List.length_append]; rfl, ?_, hws.append (.one hv), by rw [List.length_set, hkl], ?_, ?_, hTO₃, ?_, ?_, ?_, ?_⟩
        · rw [heads_app dl _ hheads]; rfl
        · rw [List.length_append]; exact set_take hdl hkt
        · exact hs₃.extBut _ _ nz (hs₂.extBut _ _ hz_it hz')
        · refine ZR.app (hZd.at (Le.refl W) fun a ha o e => hs₃.extBut _ _ (fun q => nTi (by rw [hits]; exact List.mem_append_left _ (q ▸ ha))) (hs₂.extBut _ _ (fun q => ?_) e)) ?_
          · exact nd2.2.2 a ha it List.mem_cons_self q
          · refine .cons (vs := vs ++ [v]) (us := us) (m := m) (l := l) (by rw [List.append_assoc]; exact hrole) hvs ?_ .nil
            rw [List.length_append]
            exact hit₂.extBut hs₃.extBut (Ne.symm hT_it)
        · refine hZr.at (Le.refl W) fun a ha o e => hs₃.extBut _ _ (fun q => nTi (by rw [hits]; exact List.mem_append_right _ (List.mem_cons_of_mem _ (q ▸ ha)))) (hs₂.extBut _ _ (fun q => ?_) e)
          exact (List.nodup_cons.mp nd2.2.1).1 (q ▸ ha)
        · show _ = _
          rw [hs₃.1, hs₂.1]; exact hsz'
        · exact fun a o c1 c2 c3 x => hs₃.extBut _ _ c2 (hs₂.extBut _ _ (fun q => c3 (q ▸ hmem)) (hk' a o c1 c2 c3 x))
  · obtain ⟨hb, done, todo, dl, tl, hd, td, ws, kp, h', rfl, hits, hls, hrest, hheads, hws, hkl, hkt, hz', hTO', hZd, hZt, hsz', hk'⟩ := hI
    cases hZt with
    | cons => cases hrest
    | nil =>
      rw [List.append_nil] at hits hls
      subst hits hls
      have hkw : kp = ws := by rw [← hkt, List.take_of_length_le (by omega)]
      subst hkw
      obtain ⟨b1, b2⟩ := b
      cases hb
      dsimp only
      refine wpAny_bind (wpAny_seqItems hTO' rfl ?_)
      refine wpAny_bind (wpAny_newTuple ?_ (by rw [List.toList_toArray, sizeLine_eq, hkl]; omega))
      dsimp only
      rw [hsz']
      show wpAny _ _ (Builtin.SmallTypes.ownedTupleHandOut (.ref z) (.ref s.heap.objs.size) >>= _) _ _ _
      refine wpAny_bind ?_
      unfold Builtin.SmallTypes.ownedTupleHandOut
      have hzlt : z < s.heap.objs.size := Heap.lt_size hz
      have hz₆ : IsZip (h'.push { cls := .type "tuple", data := .seq kp.toArray }) z TI TO .ellipsis := Heap.get?_push_of_some _ hz'
      refine wpAny_bind (wpAny_setField_rec hz₆ (by simp) fun h₇ hz₇ hs₇ => ?_)
      replace hz₇ : IsZip h₇ z TI TO (rawInt s.heap.objs.size) := hz₇
      refine wpAny_setField_rec hz₇ (by simp) fun h₈ hz₈ hs₈ => ?_
      replace hz₈ : IsZip h₈ z TI TO (rawInt s.heap.objs.size) := hz₈
      have up : ∀ a o, a ≠ z → h'.get? a = some o → h₈.get? a = some o := fun a o c1 e => hs₈.extBut _ _ c1 (hs₇.extBut _ _ c1 (Heap.get?_push_of_some _ e))
      have hT₈ : TupAt h₈ s.heap.objs.size kp := by
        have := Heap.get?_push_size h' (o := { cls := .type "tuple", data := .seq kp.toArray }) rfl
        rw [hsz'] at this
        exact hs₈.extBut _ _ (Nat.ne_of_gt hzlt) (hs₇.extBut _ _ (Nat.ne_of_gt hzlt) this)
      refine wpAny_pure ⟨_, rfl, ?_⟩
      exact hQ hd td hheads h₈ kp hws hz₈ (up _ _ (Ne.symm nz) hTO') hT₈ (hZd.at (Le.refl W) fun a ha o e => up a o (fun q => nzi (q ▸ ha)) e) fun a o c1 c2 c3 e => up a o c1 (hk' a o c1 c2 c3 e)
  · refine ⟨rfl, [], its, [], ls, [], [], [], kept, h₁, rfl, rfl, rfl, by simp, rfl, .nil, hlen, rfl, hz₁, hs₁.extBut _ _ (Ne.symm nz) hTO, .nil, hZ.at (Le.refl W) fun a ha o e => hs₁.extBut _ _ (fun q => nzi (q ▸ ha)) e, hs₁.1, fun a o c1 _ _ e => hs₁.extBut _ _ c1 e⟩
theorem pyNext_zip_item {A : Around} {E : Value → Shared → Prop} {s : Shared} {W : Wd} {st : AS} {z TI TO : Addr} {its : List Addr} {ls : List (List AV)} {kept : List Value} {Q : Option Value → Shared → Prop} (hh : A.handled = none) (H : HR c W st s.heap)
    (h0 : its ≠ []) (hz : IsZip s.heap z TI TO .none) (hTI : TupAt s.heap TI (its.map .ref)) (hTO : TupAt s.heap TO kept) (hlen : kept.length = its.length) (hZ : ZR W s.heap its ls) (hsz : its.length ≤ 1000)
    (nz : z ≠ TO) (nzi : z ∉ its) (nTi : TO ∉ its) (nd : its.Nodup) (rz : W.role z = .oth) (rT : W.role TO = .oth) (ri : ∀ a ∈ its, W.role a = .oth)
    (hQ : ∀ hs ts, heads ls = some (hs, ts) → ∀ h' vs, VRs W vs hs → IsZip h' z TI TO (rawInt s.heap.objs.size) → TupAt h' TO vs → TupAt h' s.heap.objs.size vs → ZR W h' its ts →
      (∀ a o, a ≠ z → a ≠ TO → a ∉ its → s.heap.get? a = some o → h'.get? a = some o) → Q (some (.ref s.heap.objs.size)) { s with heap := h' })
    (hE : heads ls = .none → ∀ h', (∀ a o, a ≠ z → a ≠ TO → a ∉ its → s.heap.get? a = some o → h'.get? a = some o) → Q none { s with heap := h' }) :
    wpAny (model c.prog c.w) A (pyNext (.ref z)) Q E s := by
  have hT : s.TypeIs (.ref z) "zip" := ⟨_, hz, rfl⟩
  unfold pyNext
  refine wpAny_bind (wpAny_attempt (wpAny_callSpecial?_slot (name := Str.ofString "__next__") hT PySem.F.slot_zip_next
    (wpAny_call_entry PySem.F.slot_zip_next hT PySem.F.entry_zip_next
      (zip_next hh H h0 hz hTI hTO hlen hZ hsz nz nzi nTi nd rz rT ri (fun hs ts e h' vs a1 a2 a3 a4 a5 a6 => wpAny_pure (hQ hs ts e h' vs a1 a2 a3 a4 a5 a6)) (fun e h' x hk he => ?_)) (PySem.F.args_zip_next_1 _))))
  obtain ⟨o, ho, hc⟩ := he
  refine wpAny_bind (wpAny_isInstance (T := "StopIteration") (b := true) ⟨o, ho, hc⟩ isSubtype_stop ?_)
  exact wpAny_pure (hE e _ hk)
structure JZ (z TI TO : Addr) (its : List Addr) (ls : List (List AV)) (W : Wd) (st : AS) (h : Heap) : Prop where
  at_ : IsZip h z TI TO .none ∧ TupAt h TI (its.map .ref) ∧ ZR W h its ls
  kp : ∃ kept, TupAt h TO kept ∧ kept.length = its.length
  zo : W.role z = .oth
  Io : W.role TI = .oth
  To : W.role TO = .oth
  io : ∀ a ∈ its, W.role a = .oth
theorem zip_itr {A : Around} (hr : Room n A) {z TI TO : Addr} {its : List Addr} (h0 : its ≠ []) (hsz : its.length ≤ 1000) (nz : z ≠ TO) (nTI : TI ≠ z) (nTT : TI ≠ TO) (nTi' : TI ∉ its) (nzi : z ∉ its) (nTi : TO ∉ its) (nd : its.Nodup) :
    Itr c A z (z :: TI :: TO :: its) (z :: TO :: its) goesU nxZ (JZ z TI TO its) where
  alive := fun ls W st h j b hb => by
    obtain ⟨h1, h2, h3⟩ := j.at_
    obtain ⟨kept, h4, _⟩ := j.kp
    rcases List.mem_cons.mp hb with rfl | hb
    · exact ⟨_, h1⟩
    · rcases List.mem_cons.mp hb with rfl | hb
      · exact ⟨_, h2⟩
      · rcases List.mem_cons.mp hb with rfl | hb
        · exact ⟨_, h4⟩
        · exact h3.alive b hb
  frame := fun own ls W W' st st' s s' hno j Iv x Iv' => by
    obtain ⟨h1, h2, h3⟩ := j.at_
    obtain ⟨kept, h4, h5⟩ := j.kp
    have mm : ∀ b, W.role b = .oth → ¬ W.Mut b := fun b q => by unfold Wd.Mut; rw [q]; exact fun q => q
    have kk : ∀ b ∈ (z :: TI :: TO :: its), W.role b = .oth → ∀ o, s.heap.get? b = some o → s'.heap.get? b = some o := fun b hb q o e => x.kept b o (mm b q) (hno b hb) e
    refine ⟨⟨kk z (by simp) j.zo _ h1, kk TI (by simp) j.Io _ h2, h3.at x.le fun a ha o e => kk a (by simp [ha]) (j.io a ha) o e⟩, ⟨kept, kk TO (by simp) j.To _ h4, h5⟩, x.oth _ _ h1 j.zo, x.oth _ _ h2 j.Io, x.oth _ _ h4 j.To, fun a ha => ?_⟩
    obtain ⟨o, ho⟩ := h3.alive a ha
    exact x.oth _ _ ho (j.io a ha)
  wrOk := fun ls W st h j b hb => by
    obtain ⟨h1, h2, h3⟩ := j.at_
    obtain ⟨kept, h4, _⟩ := j.kp
    rcases List.mem_cons.mp hb with rfl | hb
    · exact ⟨j.zo, _, h1⟩
    · rcases List.mem_cons.mp hb with rfl | hb
      · exact ⟨j.To, _, h4⟩
      · exact ⟨j.io b hb, h3.alive b hb⟩
  next := fun ls ls' x W st s tgt hg j Iv e' Q E hQ => by
    obtain ⟨h1, h2, h3⟩ := j.at_
    obtain ⟨kept, h4, h5⟩ := j.kp
    unfold nxZ at e'
    cases tgt with
    | Tuple elts k pos =>
      refine pyNext_zip_item hr.1 Iv h0 h1 h2 h4 h5 h3 hsz nz nzi nTi nd j.zo j.To j.io (fun hs ts e h' vs a1 a2 a3 a4 a5 a6 => ?_) (fun e => by rw [e] at e'; cases e')
      rw [e] at e'
      cases e'
      dsimp only
      have hT : s.heap.get? s.heap.objs.size = .none := get_none_of_ge (Nat.le_refl _)
      have ne : ∀ a o, s.heap.get? a = some o → a ≠ s.heap.objs.size := fun a o e => Nat.ne_of_lt (Heap.lt_size e)
      refine wpAny_letOwnedTupleGo_zip a2 fun h2' he2 hs2 => ?_
      have L : Le W (W.set s.heap.objs.size (.frz { cls := .type "tuple", data := .seq vs.toArray })) := Le.set (Iv.oth_of_none hT)
      have zT := ne z _ h1
      have tT := hs2.extBut _ _ (Ne.symm zT) a4
      have ro : ∀ a o, s.heap.get? a = some o → W.role a = .oth → (W.set s.heap.objs.size (.frz { cls := .type "tuple", data := .seq vs.toArray })).role a = .oth := fun a o e q => by rw [Wd.set_other (ne a o e)]; exact q
      refine hQ _ (.ref s.heap.objs.size) h2' s.toks (.inr ⟨_, _, hT, tT, rfl⟩) (.tup (vs := vs) Wd.set_self rfl rfl (a1.mono L)) ⟨⟨he2, ?_, ?_⟩, ⟨vs, hs2.extBut _ _ (Ne.symm nz) a3, ?_⟩, ro _ _ h1 j.zo, ro _ _ h2 j.Io, ro _ _ h4 j.To, fun a ha => ?_⟩ fun b o hb q => ?_
      · exact hs2.extBut _ _ nTI (a6 _ _ nTI nTT nTi' h2)
      · exact a5.at L fun a ha o e => hs2.extBut _ _ (fun q => nzi (q ▸ ha)) e
      · rw [a1.length, a5.length]; exact heads_len e
      · obtain ⟨o, ho⟩ := h3.alive a ha
        exact ro _ _ ho (j.io a ha)
      · refine hs2.extBut _ _ (fun z' => hb (by rw [z']; simp)) (a6 b o (fun z' => hb (by rw [z']; simp)) (fun z' => hb (by rw [z']; simp)) (fun z' => hb (by simp [z'])) q)
    | _ => cases hg
  stop := fun ls W st s j Iv e' Q E hQ => by
    obtain ⟨h1, h2, h3⟩ := j.at_
    obtain ⟨kept, h4, h5⟩ := j.kp
    unfold nxZ at e'
    refine pyNext_zip_item hr.1 Iv h0 h1 h2 h4 h5 h3 hsz nz nzi nTi nd j.zo j.To j.io (fun hs ts e => by rw [e] at e'; cases e') (fun e h' hk => ?_)
    exact hQ h' s.toks fun b o hb q => hk b o (fun z' => hb (by rw [z']; simp)) (fun z' => hb (by rw [z']; simp)) (fun z' => hb (by simp [z'])) q
  self := fun ls W st s j Q E hQ => wpAny_pyIter_zip j.at_.1 hQ
theorem typeCall_zip_3 (a b d : Value) : checkTypeCall "zip" ⟨[a, b, d], []⟩ = pure () := by kernel_rfl
theorem newCall_zip_3 (a b d : Value) : checkBuiltinCall "zip.__new__" ⟨[.type "zip", a, b, d], []⟩ = pure () := by kernel_rfl
theorem args_object_init_4 (a b d e : Value) : argsOk "object.__init__" ⟨[a, b, d, e], []⟩ := by
  unfold argsOk; rw [signature?_of (id := "object.__init__") (n := ['_', '_', 't', 'i', 'n', 'i', '_', '_']) (o := ['t', 'c', 'e', 'j', 'b', 'o']) (by kernel_rfl) PySem.F.owner_object]; kernel_rfl
abbrev z3H1 (h : Heap) (l1 : Addr) : Heap := h.push { cls := .type "list_iterator", data := .fields #[.ref l1, .int 0 0] }
abbrev z3H2 (h : Heap) (l1 l2 : Addr) : Heap := (z3H1 h l1).push { cls := .type "list_iterator", data := .fields #[.ref l2, .int 0 0] }
abbrev z3H3 (h : Heap) (l1 l2 l3 : Addr) : Heap := (z3H2 h l1 l2).push { cls := .type "list_iterator", data := .fields #[.ref l3, .int 0 0] }
abbrev z3H4 (h : Heap) (l1 l2 l3 : Addr) : Heap := (z3H3 h l1 l2 l3).push { cls := .type "tuple", data := .seq #[.ref h.objs.size, .ref (z3H1 h l1).objs.size, .ref (z3H2 h l1 l2).objs.size] }
abbrev z3H5 (h : Heap) (l1 l2 l3 : Addr) : Heap := (z3H4 h l1 l2 l3).push { cls := .type "tuple", data := .seq #[.none, .none, .none] }
abbrev z3H6 (h : Heap) (l1 l2 l3 : Addr) : Heap := (z3H5 h l1 l2 l3).push { cls := .type "zip", data := .fields #[.none, .bool false, .bool false, .ref (z3H3 h l1 l2 l3).objs.size, .ref (z3H4 h l1 l2 l3).objs.size] }
set_option maxHeartbeats 4000000 in
theorem meets_zip3 (l1 l2 l3 : Addr) (xs ys zs : Array Value) :
    Meets (Builtin.«zip.__new__» ⟨[.type "zip", .ref l1, .ref l2, .ref l3], []⟩) (fun _ R s => s.heap.IsList l1 xs ∧ s.heap.IsList l2 ys ∧ s.heap.IsList l3 zs ∧
      R (.ok (.ret (.ref (z3H5 s.heap l1 l2 l3).objs.size))) { s with heap := z3H6 s.heap l1 l2 l3 }) :=
  .of_wp fun prog w A R s h => by
    obtain ⟨hp, g, d, tk, os⟩ := s; obtain ⟨hl1, hl2, hl3, h⟩ := h
    have hsub := sub_zip
    have hL1 : Heap.IsList (Shared.heap ⟨hp, g, d, tk, os⟩) l1 xs := hl1
    have hL2 : Heap.IsList (Shared.heap ⟨hp.push { cls := .type "list_iterator", data := .fields #[.ref l1, .int 0 0] }, g, d, tk, os⟩) l2 ys := Heap.IsList.push hl2 _
    have hL3 : Heap.IsList (Shared.heap ⟨(hp.push { cls := .type "list_iterator", data := .fields #[.ref l1, .int 0 0] }).push { cls := .type "list_iterator", data := .fields #[.ref l2, .int 0 0] }, g, d, tk, os⟩) l3 zs := Heap.IsList.push (Heap.IsList.push hl3 _) _
    wp_walk using wpAny_pyIter_list hL1, wpAny_pyIter_list hL2, wpAny_pyIter_list hL3
    exact ⟨_, rfl, h⟩
theorem call_zip_3 {A : Around} {E : Value → Shared → Prop} {s : Shared} {l1 l2 l3 : Addr} {xs ys zs : Array Value} {Q : Value → Shared → Prop} (hl1 : s.heap.IsList l1 xs) (hl2 : s.heap.IsList l2 ys) (hl3 : s.heap.IsList l3 zs)
    (h : ∀ h', IsZip h' (s.heap.objs.size + 5) (s.heap.objs.size + 3) (s.heap.objs.size + 4) .none → TupAt h' (s.heap.objs.size + 3) [.ref s.heap.objs.size, .ref (s.heap.objs.size + 1), .ref (s.heap.objs.size + 2)] →
      TupAt h' (s.heap.objs.size + 4) [.none, .none, .none] → h'.IsListIter s.heap.objs.size l1 0 → h'.IsListIter (s.heap.objs.size + 1) l2 0 → h'.IsListIter (s.heap.objs.size + 2) l3 0 →
      (∀ c o, s.heap.get? c = some o → h'.get? c = some o) → Q (.ref (s.heap.objs.size + 5)) { s with heap := h' }) :
    wpAny (model c.prog c.w) A (call (.type "zip") [.ref l1, .ref l2, .ref l3]) Q E s := by
  refine callType_new PySem.F.called_zip (by decide) (typeCall_zip_3 _ _ _) (newCall_zip_3 _ _ _) (fun obj => args_object_init_4 obj _ _ _) PySem.F.entry_zip_new
    (meets_zip3 l1 l2 l3 xs ys zs) ⟨hl1, hl2, hl3, ?_⟩
  have z1 : (z3H1 s.heap l1).objs.size = s.heap.objs.size + 1 := Heap.size_push ..
  have z2 : (z3H2 s.heap l1 l2).objs.size = s.heap.objs.size + 2 := by rw [Heap.size_push, z1]
  have z3 : (z3H3 s.heap l1 l2 l3).objs.size = s.heap.objs.size + 3 := by rw [Heap.size_push, z2]
  have z4 : (z3H4 s.heap l1 l2 l3).objs.size = s.heap.objs.size + 4 := by rw [Heap.size_push, z3]
  have z5 : (z3H5 s.heap l1 l2 l3).objs.size = s.heap.objs.size + 5 := by rw [Heap.size_push, z4]
  have g6 : (z3H6 s.heap l1 l2 l3).get? (z3H5 s.heap l1 l2 l3).objs.size = some _ := Heap.get?_push_size _ rfl
  have g5 : (z3H6 s.heap l1 l2 l3).get? (z3H4 s.heap l1 l2 l3).objs.size = some _ := Heap.get?_push_of_some _ (Heap.get?_push_size _ rfl)
  have g4 : (z3H6 s.heap l1 l2 l3).get? (z3H3 s.heap l1 l2 l3).objs.size = some _ := Heap.get?_push_of_some _ (Heap.get?_push_of_some _ (Heap.get?_push_size _ rfl))
  have g3 : (z3H6 s.heap l1 l2 l3).get? (z3H2 s.heap l1 l2).objs.size = some _ := Heap.get?_push_of_some _ (Heap.get?_push_of_some _ (Heap.get?_push_of_some _ (Heap.get?_push_size _ rfl)))
  have g2 : (z3H6 s.heap l1 l2 l3).get? (z3H1 s.heap l1).objs.size = some _ := Heap.get?_push_of_some _ (Heap.get?_push_of_some _ (Heap.get?_push_of_some _ (Heap.get?_push_of_some _ (Heap.get?_push_size _ rfl))))
  have g1 : (z3H6 s.heap l1 l2 l3).get? s.heap.objs.size = some _ := Heap.get?_push_of_some _ (Heap.get?_push_of_some _ (Heap.get?_push_of_some _ (Heap.get?_push_of_some _ (Heap.get?_push_of_some _ (Heap.get?_push_size _ rfl)))))
  show _ ∧ _
  rw [z3, z4, z5] at g6
  rw [z1, z2, z3] at g4
  rw [z4] at g5
  rw [z2] at g3
  rw [z1] at g2
  rw [z5]
  exact ⟨⟨_, g6, rfl⟩, h _ g6 g4 g5 ⟨_, g1, rfl, rfl⟩ ⟨_, g2, rfl, rfl⟩ ⟨_, g3, rfl, rfl⟩ fun c o x =>
    Heap.get?_push_of_some _ (Heap.get?_push_of_some _ (Heap.get?_push_of_some _ (Heap.get?_push_of_some _ (Heap.get?_push_of_some _ (Heap.get?_push_of_some _ x)))))⟩
noncomputable def zipIt : List AV → Cm (List (List AV)) := fun xs => match xs with
  | [.lst a, .lst b] => pu [a, b]
  | [.lst a, .lst b, .lst d] => pu [a, b, d]
  | _ => no
theorem VR.inv_lst {W : Wd} {v : Value} {xs : List AV} (h : VR W v (.lst xs)) : ∃ a vs m, v = .ref a ∧ W.role a = .frz (listOf vs.toArray m) ∧ VRs W vs xs := by
  cases h with
  | lst h1 h2 => exact ⟨_, _, _, rfl, h1, h2⟩
theorem zip_start {p : Pl} (hr : Room n p.A) {W W1 : Wd} {st : AS} {s s1 : Shared} (x1 : Ext p.Own W s W1 s1) (I1 : Inv c p W1 st s1) {h' : Heap} {k : Nat} {its : List Addr} {ls : List (List AV)} {E : Value → Shared → Prop} {Q : Value → Shared → Prop}
    (hits : its = (List.range k).map fun j => s1.heap.objs.size + j) (hk0 : 0 < k) (hk : k ≤ 10) {kept : List Value} (hkl : kept.length = k)
    (hz : IsZip h' (s1.heap.objs.size + (k + 2)) (s1.heap.objs.size + k) (s1.heap.objs.size + (k + 1)) .none) (hTI : TupAt h' (s1.heap.objs.size + k) (its.map .ref)) (hTO : TupAt h' (s1.heap.objs.size + (k + 1)) kept) (hZ : ZR W1 h' its ls)
    (kk : ∀ c o, s1.heap.get? c = some o → h'.get? c = some o)
    (hQ : ∀ W' s' I fp wr J, Ext p.Own W s W' s' → Inv c p W' st s' → Itr c p.A I fp wr goesU nxZ J → J ls W' st s'.heap → (∀ b ∈ wr, s.heap.get? b = .none) → (∀ b ∈ fp, ¬ p.Own b) → Q (.ref I) s') :
    wpAny (model c.prog c.w) p.A (pyIter (.ref (s1.heap.objs.size + (k + 2)))) Q E { s1 with heap := h' } := by
  have x2 : Ext p.Own W1 s1 W1 { s1 with heap := h' } := Ext.keeps _ _ kk rfl rfl
  have hn : ∀ j, s1.heap.get? (s1.heap.objs.size + j) = .none := fun j => get_none_of_ge (Nat.le_add_right _ _)
  have mi : ∀ a, a ∈ its → ∃ j, j < k ∧ a = s1.heap.objs.size + j := fun a ha => by
    rw [hits] at ha
    obtain ⟨j, hj, rfl⟩ := List.mem_map.mp ha
    exact ⟨j, List.mem_range.mp hj, rfl⟩
  have hnew : ∀ b, b ∈ ((s1.heap.objs.size + (k + 2)) :: (s1.heap.objs.size + k) :: (s1.heap.objs.size + (k + 1)) :: its) → s1.heap.get? b = .none := fun b hb => by
    simp only [List.mem_cons] at hb
    rcases hb with rfl | rfl | rfl | hb
    · exact hn _
    · exact hn _
    · exact hn _
    · obtain ⟨j, _, rfl⟩ := mi b hb; exact hn _
  have ilen : its.length = k := by rw [hits]; simp
  have hA : ∀ i j : Nat, i ≠ j → s1.heap.objs.size + i ≠ s1.heap.objs.size + j := fun i j h q => h (Nat.add_left_cancel q)
  refine wpAny_pyIter_zip hz (hQ W1 _ (s1.heap.objs.size + (k + 2)) _ _ _ (x1.trans x2) (I1.keeps kk) (zip_itr (TI := s1.heap.objs.size + k) (TO := s1.heap.objs.size + (k + 1)) (its := its) hr (fun q => by rw [q] at ilen; simp at ilen; omega) (by omega) (hA _ _ (by omega)) (hA _ _ (by omega)) (hA _ _ (by omega)) (fun q => ?_) (fun q => ?_) (fun q => ?_) ?_)
    ⟨⟨hz, hTI, hZ⟩, ⟨kept, hTO, by omega⟩, I1.hr.oth_of_none (hn _), I1.hr.oth_of_none (hn _), I1.hr.oth_of_none (hn _), fun a ha => ?_⟩ (fun b hb => ?_) (fun b hb => I1.fresh_own (hnew b hb)))
  · obtain ⟨j, h1, h2⟩ := mi _ q; exact hA _ _ (by omega) h2
  · obtain ⟨j, h1, h2⟩ := mi _ q; exact hA _ _ (by omega) h2
  · obtain ⟨j, h1, h2⟩ := mi _ q; exact hA _ _ (by omega) h2
  · rw [hits]
    exact List.Pairwise.map _ (fun a b (q : a ≠ b) => hA _ _ q) List.nodup_range
  · obtain ⟨j, _, rfl⟩ := mi a ha; exact I1.hr.oth_of_none (hn _)
  · have hb' : s1.heap.get? b = .none := hnew b (by
      simp only [List.mem_cons] at hb ⊢
      rcases hb with rfl | rfl | hb
      · exact .inl rfl
      · exact .inr (.inr (.inl rfl))
      · exact .inr (.inr (.inr hb)))
    cases z : s.heap.get? b with
    | none => rfl
    | some o => obtain ⟨o1, z1⟩ := x1.alive _ o z; rw [hb'] at z1; cases z1
theorem ImplI.zip (G : Gd c) {x : Str} {p0 pos : Pos} {es : List Expr} {fs : Cm (List AV)} (hx : sx.sc.names.lookup x = some .globalImplicit) (hg : c.Glob x (.type "zip")) (h : ImplEs c n sx es fs) (hd : (x == ("__debug__" : Str)) = false := by decide) (hp : es.all plainX = true := by rfl) :
    ImplI c n sx (.Call (.Name x p0) es [] pos) goesU (bd fs zipIt) nxZ := by
  intro p hsx hr W st s I xs st' e Q E hQ
  obtain ⟨ys, st1, e1, e2⟩ := bd_some e
  refine Call_ (load_glob G I (by rw [hsx]; exact hx) hg hd ?_)
  refine PyProof.Rows.callWith_type (any_false hp) (evalArgs_row hp ?_)
  refine h p hsx hr W pos W st s (Le.refl _) I ys st1 e1 _ E fun W1 vs s1 x1 I1 r1 => ?_
  unfold zipIt at e2
  split at e2
  · cases e2
    cases r1 with
    | cons r1 r1' =>
      cases r1' with
      | cons r2 r2' =>
        cases r2'
        obtain ⟨a1, v1, m1, rfl, f1, g1⟩ := r1.inv_lst
        obtain ⟨a2, v2, m2, rfl, f2, g2⟩ := r2.inv_lst
        refine call_zip_2 (I1.hr.isList f1) (I1.hr.isList f2) fun h' q1 q2 q3 q4 q5 _ kk => ?_
        exact zip_start (k := 2) (its := [s1.heap.objs.size, s1.heap.objs.size + 1]) (kept := [.none, .none]) hr x1 I1 (by simp [List.range_succ]) (by decide) (by decide) rfl q1 q2 q3 (.cons (vs := []) f1 g1 q4 (.cons (vs := []) f2 g2 q5 .nil)) kk hQ
  · cases e2
    cases r1 with
    | cons r1 r1' =>
      cases r1' with
      | cons r2 r2' =>
        cases r2' with
        | cons r3 r3' =>
          cases r3'
          obtain ⟨a1, v1, m1, rfl, f1, g1⟩ := r1.inv_lst
          obtain ⟨a2, v2, m2, rfl, f2, g2⟩ := r2.inv_lst
          obtain ⟨a3, v3, m3, rfl, f3, g3⟩ := r3.inv_lst
          refine call_zip_3 (I1.hr.isList f1) (I1.hr.isList f2) (I1.hr.isList f3) fun h' q1 q2 q3 q4 q5 q6 kk => ?_
          exact zip_start (k := 3) (its := [s1.heap.objs.size, s1.heap.objs.size + 1, s1.heap.objs.size + 2]) (kept := [.none, .none, .none]) hr x1 I1 (by simp [List.range_succ]) (by decide) (by decide) rfl q1 q2 q3 (.cons (vs := []) f1 g1 q4 (.cons (vs := []) f2 g2 q5 (.cons (vs := []) f3 g3 q6 .nil))) kk hQ
  · cases e2
end
end Mine

namespace Mine

section
variable {c : Cx} {n : Nat} {sx : Sx}

theorem cells_apart : ∀ (names : List (Str × NameKind)) (k : Nat) (acc : List (Str × Addr)), (∀ p ∈ acc, @LT.lt Nat _ p.2 k) → acc.Pairwise (fun x y => x.2 ≠ y.2) → (cellsFrom k names acc).Pairwise fun x y => x.2 ≠ y.2
  | [], _, _, _, h => h
  | (y, kd) :: r, k, acc, h1, h2 => by
    unfold cellsFrom
    split
    · refine cells_apart r (k + 1) _ (fun p hp => ?_) (List.pairwise_cons.mpr ⟨fun p hp => ?_, h2⟩)
      · rcases List.mem_cons.mp hp with rfl | hp
        · exact Nat.lt_succ_self _
        · exact Nat.lt_succ_of_lt (h1 p hp)
      · exact Ne.symm (Nat.ne_of_lt (h1 p hp))
    · exact cells_apart r k acc h1 h2
theorem cells_look {cm : Str → Option Value} {y : Str} {b : Addr} : ∀ {cs : List (Str × Addr)} {cells : List (Addr × Obj)}, CellsAre cm cs cells → cs.lookup y = some b → ∃ o, (b, o) ∈ cells ∧ o.data = .cell (cm y)
  | _, _, .nil, h => by cases h
  | (z, d) :: cs, _, .cons (o := o) h1 r, h => by
    rw [List.lookup_cons] at h
    split at h
    · rename_i q
      cases h
      have : y = z := eq_of_beq q
      subst this
      exact ⟨o, List.mem_cons_self, h1⟩
    · obtain ⟨o', h2, h3⟩ := cells_look r h
      exact ⟨o', List.mem_cons_of_mem _ h2, h3⟩
theorem law_okC (G : Gd c) {nm : Str} {scope : Scope} {fa : Addr} {cd : Value} {body : List Stmt} {x : Str} {others : List Str} {f : Cm AF} (hS : ImplS c n ⟨scope, x :: others, x :: others⟩ body f)
    (hn : n ≤ 80) (hk : scope.kind = .function) (hkinds : ((x :: others).all fun y => scope.names.lookup y == some .local || scope.names.lookup y == some .cell) = true) (hnd : (x :: others).Nodup)
    {s : Shared} {m cm : Str → Option Value} {cells : List (Addr × Obj)} (F : Fr c.h0 c.h0.objs.size s.heap m) (N : News c.h0 c.h0.objs.size s.heap cells) (X : CellsAre cm (cellsFrom (c.h0.objs.size + 1) scope.names []) cells)
    {a : Addr} (hm : scope.names.lookup x = some .local → m x = some (.ref a)) (hcm : scope.names.lookup x = some .cell → cm x = some (.ref a)) {vs : List Value} {ns : List Int} (hL : c.h0.IsList a vs.toArray) (hI : IntsAre vs ns)
    (hf : ∃ st', f ⟨.lsb (ns.map .int) :: List.replicate others.length .unb, [], [[]], 0⟩ = some (.ret (.bool true), st')) {Q : Flow → Shared → Prop} {E : Value → Shared → Prop}
    (hQ : ∀ s', (∀ b o, c.h0.get? b = some o → s'.heap.get? b = some o) → s'.gens = s.gens → s'.os = s.os → Q (.ret (.bool true)) s') :
    wpAny (model c.prog c.w) (callerA.deeper (envOfC nm scope c.h0.objs.size fa cd)) (execs body (envOfC nm scope c.h0.objs.size fa cd)) Q E s := by
  obtain ⟨st', hf⟩ := hf
  obtain ⟨o, ho, hc, k, hd⟩ := hL
  have hLn : c.h0.get? c.h0.objs.size = .none := get_none_of_ge (Nat.le_refl _)
  have haL : c.h0.objs.size ≠ a := fun q => by rw [← q, hLn] at ho; cases ho
  let W : Wd := ⟨fun b => if b = a then .frz o else .oth, fun _ => 0, fun _ => 0, fun _ => 0, 0, 0⟩
  let p : Pl := ⟨callerA.deeper (envOfC nm scope c.h0.objs.size fa cd), ⟨scope, x :: others, x :: others⟩, envOfC nm scope c.h0.objs.size fa cd, (x :: others).filterMap fun y => (cellsFrom (c.h0.objs.size + 1) scope.names []).lookup y⟩
  have hW : ∀ b, W.role b = .oth ∨ (b = a ∧ W.role b = .frz o) := fun b => by
    by_cases q : b = a
    · exact .inr ⟨q, if_pos q⟩
    · exact .inl (if_neg q)
  have hnm : ∀ b, ¬ W.Mut b := fun b q => by
    unfold Wd.Mut at q
    rcases hW b with z | ⟨_, z⟩ <;> rw [z] at q <;> exact q
  have hkl : ∀ y, y ∈ x :: others → scope.names.lookup y = some .local ∨ scope.names.lookup y = some .cell := fun y hy => by
    have := List.all_eq_true.mp hkinds y hy
    simpa using this
  have hcell : ∀ y b, (cellsFrom (c.h0.objs.size + 1) scope.names []).lookup y = some b → s.heap.IsCell b (cm y) ∧ b ≠ c.h0.objs.size ∧ c.h0.get? b = .none := fun y b q => by
    obtain ⟨o', h1, h2⟩ := cells_look X q
    obtain ⟨h3, h4, h5⟩ := N _ h1
    exact ⟨⟨o', h3, h2⟩, h4, h5⟩
  have I : Inv c p W ⟨.lsb (ns.map .int) :: List.replicate others.length .unb, [], [[]], 0⟩ s := by
    have first : ∀ (i : Nat) (y : Str) (v : AV), (x :: others)[i]? = some y → (AV.lsb (ns.map .int) :: List.replicate others.length .unb)[i]? = some v → v ≠ .unb → y = x ∧ v = .lsb (ns.map .int) := fun i y v h1 h2 h3 => by
      cases i with
      | zero => exact ⟨(Option.some.inj h1).symm, (Option.some.inj h2).symm⟩
      | succ i =>
        have h2' : (List.replicate others.length AV.unb)[i]? = some v := h2
        rw [List.getElem?_replicate] at h2'
        split at h2'
        · exact absurd (Option.some.inj h2').symm h3
        · cases h2'
    refine ⟨⟨F.keep, fun b q => absurd q (hnm b), fun b => ?_, fun b o' e => ?_, rfl, rfl, fun k hk => absurd hk (Nat.not_lt_zero _), (fun k i e => by simp at e), fun g hg p hp => ?_, ?_⟩,
      ⟨⟨m, F.ns, fun i y v h1 h2 h3 h4 => ?_⟩, fun i y v h1 h2 h3 h4 => ?_, fun y b q => ⟨_, (hcell y b q).1⟩, fun y hy q => ?_, hkl, cells_apart _ _ _ (fun _ h => by cases h) List.Pairwise.nil, fun b hb => mem_filterMap_lookup hb, if_neg haL, fun y b q => ⟨?_, (hcell y b q).2⟩, hLn, rfl, hk, rfl, rfl, hnd⟩⟩
    · rcases hW b with z | ⟨z1, z2⟩
      · exact .inl z
      · exact .inr ⟨o, F.keep _ _ (z1 ▸ ho)⟩
    · rcases hW b with z | ⟨z1, z2⟩
      · rw [z] at e; cases e
      · rw [z2] at e; cases e; exact F.keep _ _ (z1 ▸ ho)
    · rw [List.mem_singleton.mp hg] at hp; cases hp
    · exact List.nodup_nil
    · obtain ⟨rfl, rfl⟩ := first i y v h1 h2 h3
      exact ⟨_, hm h4, .lsb (if_pos rfl) hc hd (ints_are hI)⟩
    · obtain ⟨rfl, rfl⟩ := first i y v h1 h2 h3
      obtain ⟨b, q⟩ := Option.isSome_iff_exists.mp (cellsFrom_some (x := y) scope.names (c.h0.objs.size + 1) [] (.inl h4))
      refine ⟨_, b, q, ?_, .lsb (if_pos rfl) hc hd (ints_are hI)⟩
      have := (hcell y b q).1
      rw [hcm h4] at this
      exact this
    · obtain ⟨b, z⟩ := Option.isSome_iff_exists.mp (cellsFrom_some (x := y) scope.names (c.h0.objs.size + 1) [] (.inl q))
      exact ⟨b, z, fun _ => List.mem_filterMap.mpr ⟨y, hy, z⟩⟩
    · have : b ≠ a := fun z => by
        have := (hcell y b q).2.2
        rw [z, ho] at this; cases this
      exact if_neg this
  have hr : Room n p.A := ⟨rfl, by show 1 + claimMargin + 1 + 2 * n ≤ 900; unfold claimMargin; omega, by show 4 + 3 + 100 * n + 100 ≤ 9000; omega⟩
  refine hS p rfl hr W W _ s (Le.refl _) I _ st' hf Q E fun W1 fl s1 x1 I1 r1 => ?_
  cases r1 with
  | ret rv =>
    cases rv
    exact hQ s1 I1.hr.keep x1.gens x1.os
end
end Mine

namespace Mine

section
variable {c : Cx} {n : Nat} {sx : Sx}

theorem from_app : ∀ (names : List (Str × NameKind)) (k : Nat) (acc : List (Str × Addr)), cellsFrom k names acc = cellsFrom k names [] ++ acc
  | [], _, _ => rfl
  | (y, kd) :: r, k, acc => by
    unfold cellsFrom
    split
    · rw [from_app r (k + 1) ((y, k) :: acc), from_app r (k + 1) [(y, k)], List.append_assoc]; rfl
    · exact from_app r k acc
theorem from_mem {y : Str} {a : Addr} : ∀ {names : List (Str × NameKind)} {k : Nat} {acc : List (Str × Addr)}, (y, a) ∈ cellsFrom k names acc → (y, a) ∈ acc ∨ (y, NameKind.cell) ∈ names
  | [], _, _, h => .inl h
  | (z, kd) :: r, k, acc, h => by
    unfold cellsFrom at h
    split at h
    · rename_i q
      rcases from_mem h with h | h
      · rcases List.mem_cons.mp h with h | h
        · cases h; exact .inr (by rw [← beq_iff_eq.mp q]; exact List.mem_cons_self)
        · exact .inl h
      · exact .inr (List.mem_cons_of_mem _ h)
    · rcases from_mem h with h | h
      · exact .inl h
      · exact .inr (List.mem_cons_of_mem _ h)
theorem look_app {a b : List (Str × Addr)} {y : Str} : (a ++ b).lookup y = match a.lookup y with | some v => some v | .none => b.lookup y := by
  induction a with
  | nil => rfl
  | cons x r ih =>
    obtain ⟨z, v⟩ := x
    rw [List.cons_append, List.lookup_cons, List.lookup_cons]
    cases h : y == z
    · exact ih
    · rfl
theorem kind_one {names : List (Str × NameKind)} (h : (names.map (·.1)).Nodup) {y : Str} {k k' : NameKind} (h1 : (y, k) ∈ names) (h2 : (y, k') ∈ names) : k = k' := by
  induction names with
  | nil => cases h1
  | cons x r ih =>
    obtain ⟨n1, n2⟩ := List.nodup_cons.mp h
    rcases List.mem_cons.mp h1 with e1 | h1
    · rcases List.mem_cons.mp h2 with e2 | h2
      · rw [← e1] at e2; cases e2; rfl
      · exact absurd (List.mem_map.mpr ⟨_, h2, by rw [← e1]⟩) n1
    · rcases List.mem_cons.mp h2 with e2 | h2
      · exact absurd (List.mem_map.mpr ⟨_, h1, by rw [← e2]⟩) n1
      · exact ih n2 h1 h2
structure Comp2Is (sx : Sx) (scope : Scope) (tv cp : List Str) (caps : List Nat) : Prop where
  kind : scope.kind = .function
  names : (scope.names.all fun x => x.2 != .local || scope.names.lookup x.1 == some .local) = true
  nod : (scope.names.map (·.1)).Nodup
  free : (scope.names.all fun y => y.2 != .free || cp.contains y.1) = true
  frees : (cp.all fun y => scope.names.any fun z => z.1 == y && z.2 == .free) = true
  tvk : (tv.all fun y => (relS scope sx.sc).names.lookup y == some .local || (relS scope sx.sc).names.lookup y == some .cell && scope.names.lookup y == some .cell) = true
  cpk : (cp.all fun y => (relS scope sx.sc).names.lookup y == some .cell) = true
  cpo : (cp.all fun y => sx.sc.names.lookup y == some .cell) = true
  vars : caps.map (fun i => sx.vars[i]?) = cp.map some
  nodup : (tv ++ cp).Nodup
noncomputable def comp2Chk (sx : Sx) (scope : Scope) (tv cp : List Str) (caps : List Nat) : Bool :=
  (scope.names.all fun x => x.2 != .local || scope.names.lookup x.1 == some .local) && decide (scope.names.map (·.1)).Nodup &&
  (scope.names.all fun y => y.2 != .free || cp.contains y.1) && (cp.all fun y => scope.names.any fun z => z.1 == y && z.2 == .free) && (tv.all fun y => (relS scope sx.sc).names.lookup y == some .local || (relS scope sx.sc).names.lookup y == some .cell && scope.names.lookup y == some .cell) &&
  (cp.all fun y => (relS scope sx.sc).names.lookup y == some .cell) && (cp.all fun y => sx.sc.names.lookup y == some .cell) && decide (caps.map (fun i => sx.vars[i]?) = cp.map some) && decide (tv ++ cp).Nodup
theorem Comp2Is.of {sx : Sx} {scope : Scope} {tv cp : List Str} {caps : List Nat} (hk : scope.kind = .function) (h : comp2Chk sx scope tv cp caps = true) : Comp2Is sx scope tv cp caps := by
  unfold comp2Chk at h
  simp only [Bool.and_eq_true] at h
  obtain ⟨⟨⟨⟨⟨⟨⟨⟨b, c⟩, d⟩, e⟩, f⟩, g⟩, i⟩, j⟩, k⟩ := h
  exact ⟨hk, b, of_decide_eq_true c, d, e, f, g, i, of_decide_eq_true j, of_decide_eq_true k⟩
noncomputable def ownC (scope : Scope) (C : Addr) : List (Str × Addr) := cellsFrom (C + 1) scope.names []
noncomputable def clC (p : Pl) (scope : Scope) : List (Str × Addr) := closeL (fun y => p.env.cells.lookup y) scope.names []
noncomputable def plC (p : Pl) (scope : Scope) (tv cp : List Str) (C : Addr) : Pl := ⟨p.A, sxC p.sx scope tv cp, compEnvC scope (ownC scope C ++ clC p scope) C p.env, tv.filterMap fun y => (ownC scope C).lookup y⟩
theorem comp2_frame {p : Pl} {W : Wd} {st : AS} {s : Shared} (I : Inv c p W st s) {scope : Scope} {tv cp : List Str} {caps : List Nat} (D : Comp2Is p.sx scope tv cp caps) {C : Addr} (hC : W.role C = .oth) (hC0 : c.h0.get? C = .none) {ml : Str → Option Value} (hml : ∀ x, ml x = .none) (hns : s.heap.Ns C ml)
    (hne : ∀ y a, p.env.cells.lookup y = some a → @LT.lt Nat _ a C) (hown : ∀ y a, (y, a) ∈ ownC scope C → s.heap.IsCell a .none ∧ @LT.lt Nat _ C a ∧ W.role a = .oth ∧ c.h0.get? a = .none) (hap : (ownC scope C).Pairwise fun x y => x.2 ≠ y.2) :
    FrV c (plC p scope tv cp C) W (List.replicate tv.length .unb ++ capsL caps st.loc) s.heap := by
  have F := I.fr
  have hk : ∀ x, Env.kindOf (plC p scope tv cp C).env x = (relS scope p.sx.sc).names.lookup x := fun x => by
    show (relabel scope p.env).names.lookup x = _
    rw [rel_static F.scope]
  have hko : ∀ x, p.env.kindOf x = p.sx.sc.names.lookup x := fun x => by show p.env.scope.names.lookup x = _; rw [F.scope]
  have hT : ∀ x ∈ tv, (relS scope p.sx.sc).names.lookup x = some .local ∨ ((relS scope p.sx.sc).names.lookup x = some .cell ∧ scope.names.lookup x = some .cell) := fun x hx => by
    have := List.all_eq_true.mp D.tvk x hx
    simpa using this
  have hP : ∀ x ∈ cp, (relS scope p.sx.sc).names.lookup x = some .cell := fun x hx => beq_iff_eq.mp (List.all_eq_true.mp D.cpk x hx)
  have hO : ∀ x ∈ cp, p.sx.sc.names.lookup x = some .cell := fun x hx => beq_iff_eq.mp (List.all_eq_true.mp D.cpo x hx)
  have hF : ∀ x ∈ cp, (x, NameKind.free) ∈ scope.names := fun x hx => by
    obtain ⟨z, hz, q⟩ := List.any_eq_true.mp (List.all_eq_true.mp D.frees x hx)
    obtain ⟨q1, q2⟩ := Bool.and_eq_true_iff.mp q
    have e1 : z.1 = x := beq_iff_eq.mp q1
    have e2 : z.2 = .free := beq_iff_eq.mp q2
    rw [← e1, ← e2]; exact hz
  have noOwn : ∀ x ∈ cp, (ownC scope C).lookup x = .none := fun x hx => by
    cases q : (ownC scope C).lookup x with
    | none => rfl
    | some a =>
      rcases from_mem (mem_of_lookup q) with z | z
      · cases z
      · cases kind_one D.nod z (hF x hx)
  have memC : ∀ x a, (clC p scope).lookup x = some a → p.env.cells.lookup x = some a := fun x a q => by
    rcases closeL_mem (mem_of_lookup q) with z | z
    · cases z
    · exact z
  have two : ∀ x a, (plC p scope tv cp C).env.cells.lookup x = some a → (ownC scope C).lookup x = some a ∨ ((ownC scope C).lookup x = .none ∧ p.env.cells.lookup x = some a) := fun x a q => by
    have q' : (ownC scope C ++ clC p scope).lookup x = some a := q
    rw [look_app] at q'
    cases z : (ownC scope C).lookup x with
    | some b => rw [z] at q'; exact .inl q'
    | none => rw [z] at q'; exact .inr ⟨rfl, memC x a q'⟩
  have has : ∀ x ∈ cp, ∀ a, p.env.cells.lookup x = some a → (plC p scope tv cp C).env.cells.lookup x = some a := fun x hx a q => by
    show (ownC scope C ++ clC p scope).lookup x = some a
    rw [look_app, noOwn x hx]
    obtain ⟨b, hb⟩ := closeL_has (f := fun y => p.env.cells.lookup y) (acc := []) (.inr ⟨hF x hx, a, q⟩)
    obtain ⟨b', hb'⟩ := lookup_of_mem hb
    show (clC p scope).lookup x = some a
    have hb'' : (clC p scope).lookup x = some b' := hb'
    rw [hb'']
    rw [memC x b' hb''] at q
    exact q
  have hv : ∀ x ∈ cp, x ∈ p.sx.vars := fun x hx => by
    have : some x ∈ caps.map (fun i => p.sx.vars[i]?) := by rw [D.vars]; exact List.mem_map.mpr ⟨x, hx, rfl⟩
    obtain ⟨i, _, q⟩ := List.mem_map.mp this
    exact List.mem_of_getElem? q
  have idx : ∀ (i : Nat) (x : Str) (v : AV), (tv ++ cp)[i]? = some x → (List.replicate tv.length AV.unb ++ capsL caps st.loc)[i]? = some v → v ≠ .unb → x ∈ cp ∧ ∃ j, p.sx.vars[j]? = some x ∧ st.loc[j]? = some v := fun i x v h1 h2 h3 => by
    rcases Nat.lt_or_ge i tv.length with q | q
    · rw [List.getElem?_append_left (by simpa using q), List.getElem?_replicate] at h2
      split at h2 <;> first | (cases h2; exact absurd rfl h3) | cases h2
    · rw [List.getElem?_append_right q] at h1
      rw [List.getElem?_append_right (by simpa using q), List.length_replicate] at h2
      refine ⟨List.mem_of_getElem? h1, ?_⟩
      unfold capsL at h2
      rw [List.getElem?_map] at h2
      obtain ⟨j, hj, hv⟩ := Option.map_eq_some_iff.mp h2
      have e1 : (caps.map (fun i => p.sx.vars[i]?))[i - tv.length]? = some (p.sx.vars[j]?) := by rw [List.getElem?_map, hj]; rfl
      rw [D.vars, List.getElem?_map, h1] at e1
      refine ⟨j, (Option.some.inj e1).symm, ?_⟩
      cases hl : st.loc[j]? with
      | none => rw [hl] at hv; exact absurd hv.symm h3
      | some w => rw [hl] at hv; exact congrArg some hv
  refine ⟨⟨ml, hns, fun i x v h1 h2 h3 h4 => ?_⟩, fun i x v h1 h2 h3 h4 => ?_, fun x a q => ?_, fun x hx q => ?_, fun x hx => ?_, ?_, fun a ha => ?_, hC, fun x a q => ?_, hC0, rel_static F.scope, D.kind, F.globals, F.builtins, D.nodup⟩
  · obtain ⟨hx, _⟩ := idx i x v h1 h2 h3
    rw [hk, hP x hx] at h4; cases h4
  · obtain ⟨hx, j, j1, j2⟩ := idx i x v h1 h2 h3
    obtain ⟨val, a, e1, e2, r⟩ := F.cl j x v j1 j2 h3 (by rw [hko]; exact hO x hx)
    exact ⟨val, a, has x hx a e1, e2, r⟩
  · rcases two x a q with z | ⟨_, z⟩
    · exact ⟨_, (hown x a (mem_of_lookup z)).1⟩
    · exact F.cells x a z
  · rcases List.mem_append.mp hx with hx | hx
    · rcases hT x hx with z | ⟨_, z⟩
      · rw [hk, z] at q; cases q
      · obtain ⟨a, w⟩ := Option.isSome_iff_exists.mp (cellsFrom_some (x := x) scope.names (C + 1) [] (.inl z))
        have w' : (ownC scope C).lookup x = some a := w
        refine ⟨a, ?_, fun _ => List.mem_filterMap.mpr ⟨x, hx, w'⟩⟩
        show (ownC scope C ++ clC p scope).lookup x = some a
        rw [look_app, w']
    · obtain ⟨a, e1, _⟩ := F.hasCell x (hv x hx) (by rw [hko]; exact hO x hx)
      refine ⟨a, has x hx a e1, fun ht => ?_⟩
      exact absurd rfl ((List.nodup_append.mp D.nodup).2.2 x ht x hx)
  · rcases List.mem_append.mp hx with hx | hx
    · rcases hT x hx with z | ⟨z, _⟩
      · exact .inl ((hk x).trans z)
      · exact .inr ((hk x).trans z)
    · exact .inr ((hk x).trans (hP x hx))
  · refine List.pairwise_append.mpr ⟨hap, closeL_apart (fun y z a h1 h2 => name_of_addr F.apart (mem_of_lookup h1) (mem_of_lookup h2)) List.Pairwise.nil (fun x hx => by cases hx) D.nod (fun x hx => by cases hx), fun x hx y hy q => ?_⟩
    have h1 := (hown x.1 x.2 hx).2.1
    rcases closeL_mem (y := y.1) (a := y.2) hy with z | z
    · cases z
    · have h2 := hne y.1 y.2 z
      rw [q] at h1
      exact Nat.lt_irrefl _ (Nat.lt_trans h1 h2)
  · obtain ⟨x, hx, q⟩ := List.mem_filterMap.mp ha
    refine ⟨x, ?_⟩
    show (ownC scope C ++ clC p scope).lookup x = some a
    rw [look_app, q]
  · rcases two x a q with z | ⟨_, z⟩
    · obtain ⟨_, h2, h3, h4⟩ := hown x a (mem_of_lookup z)
      exact ⟨h3, Nat.ne_of_gt h2, h4⟩
    · exact ⟨(F.roleC x a z).1, Nat.ne_of_lt (hne x a z), (F.roleC x a z).2.2⟩
theorem comp2_core {σ : Type} {gt : Expr → Bool} {f : Cm σ} {size : σ → AS → Nat} {nx : σ → AS → Option (Option (AV × σ))} {tgt : AV → Cm Unit} {ft : Cm Bool} {fe : Cm AV} {elt target iter : Expr} {ifs : List Expr} {scope : Scope} {pos pos' : Pos} {tv cp : List Str} {caps : List Nat}
    (D : Comp2Is sx scope tv cp caps) (h0 : ImplI c n sx iter gt f nx) (h1 : ImplA c n (sxC sx scope tv cp) target tgt) (ht : ImplC c n (sxC sx scope tv cp) ifs ft) (h2 : ImplE c n (sxC sx scope tv cp) elt fe) (hg : gt target = true) (hs : ∀ env x, foldedSetIterable iter env x = pure x)
    {p : Pl} (hsx : p.sx = sx) (hr : Room n p.A) {W : Wd} {st st' : AS} {s : Shared} (I : Inv c p W st s) {b : AV} (e : compM tv.length caps f size nx tgt ft fe st = some (b, st')) {use : Option (Value → Sem Unit)} {Q : Value → Shared → Prop} {E : Value → Shared → Prop}
    (hEnd : ∀ W' acc s' C (new : Addr → Prop), (∀ a, new a → s.heap.get? a = .none) → s.heap.get? C = .none → ¬ p.Own C → W'.role C = .oth → c.h0.get? C = .none → (∃ m, s'.heap.Ns C m) → (∀ y a, p.env.cells.lookup y = some a → a ≠ C) → p.env.locals ≠ C → Ext (fun a => p.Own a ∨ new a) W s W' s' → Inv c p W' st' s' → VR W' acc b → compPost (model c.prog c.w) p.A E use Q acc C (.ok .next) s') :
    wpAny (model c.prog c.w) p.A (comprehension (.ListComp elt [⟨target, iter, ifs, 0⟩] scope pos) scope p.env pos' (newList []) false (eval iter p.env) use) Q E s := by
  subst hsx
  obtain ⟨i, st1, e1, e2⟩ := bd_some e
  split at e2
  case h_2 => cases e2
  rename_i u st2 he2
  cases e2
  have hcells : ∀ y, (y, NameKind.free) ∈ scope.names → ∃ a, p.env.cells.lookup y = some a := fun y hy => by
    have h1 := List.all_eq_true.mp D.free _ hy
    have hcp : y ∈ cp := by simpa using h1
    have hv : y ∈ p.sx.vars := by
      have : some y ∈ caps.map (fun i => p.sx.vars[i]?) := by rw [D.vars]; exact List.mem_map.mpr ⟨y, hcp, rfl⟩
      obtain ⟨i, _, q⟩ := List.mem_map.mp this
      exact List.mem_of_getElem? q
    obtain ⟨a, e1, _⟩ := I.fr.hasCell y hv (by
      show p.env.scope.names.lookup y = _
      rw [I.fr.scope]; exact beq_iff_eq.mp (List.all_eq_true.mp D.cpo y hcp))
    exact ⟨a, e1⟩
  refine wpAny_comprehension_free rfl (hs p.env) (closure_is hcells) D.kind (fun x hx hl => ?_) (h0 p rfl hr W st s I i st1 e1 _ E fun W1 s1 It fp wr J x1 I1 T j hwr hfp => ?_)
  · have := List.all_eq_true.mp D.names x hx
    rw [hl] at this
    simpa using this
  refine newLob_ok (VRs.nil (W := W1)) W1 st1 s1 (Le.refl _) I1 (.lob st1.nl) ⟨st1.loc, st1.ins, pushL1 st1.nl [] st1.lst, st1.nl + 1⟩ (by simp [newLob]) _ E fun W2 acc s2 x2 I2 r2 => ?_
  unfold newFunctionEnv
  simp only [Option.isSome_some, if_true]
  refine wpAny_bind (wpAny_alloc ?_)
  refine wpAny_bind (wpAny_layCells _ (fun name kind cells => by cases hkc : kind == NameKind.cell <;> simp [hkc]) _ _ _ _ ?_)
  rw [List.forIn_nil]
  refine wpAny_bind (wpAny_pure (wpAny_pure ?_))
  have hsz : (s2.heap.push { cls := .type "dict", data := .dict #[] }).objs.size = s2.heap.objs.size + 1 := Heap.size_push ..
  have okc := cellsFrom_ok scope.names (s2.heap.push { cls := .type "dict", data := .dict #[] }) (s2.heap.objs.size + 1) [] ⟨fun _ _ hm => (nomatch hm), List.Pairwise.nil⟩ (by rw [hsz]; exact Nat.le_refl _)
  rw [hsz] at okc
  dsimp only
  rw [hsz, from_app]
  generalize hh1 : pushCells (s2.heap.push { cls := .type "dict", data := .dict #[] }) scope.names = h₁ at okc ⊢
  have hns0 : h₁.Ns s2.heap.objs.size (fun _ => .none) := by rw [← hh1]; exact (Heap.Ns.new s2.heap (.type "dict")).keeps (pushCells_keeps _ _)
  have k3 : ∀ b o, s2.heap.get? b = some o → h₁.get? b = some o := fun b o e => by rw [← hh1]; exact pushCells_keeps _ _ b o (Heap.get?_push_of_some _ e)
  generalize hCd : s2.heap.objs.size = C at hns0 okc ⊢
  have hCn : s2.heap.get? C = .none := get_none_of_ge (by rw [← hCd]; exact Nat.le_refl _)
  have hOn : ∀ y a, (y, a) ∈ ownC scope C → s2.heap.get? a = .none := fun y a q => get_none_of_ge (by have := (okc.empty y a q).2; rw [hCd]; exact Nat.le_of_succ_le this)
  have x12 := x1.trans x2
  have back : ∀ {a : Addr}, s2.heap.get? a = .none → s1.heap.get? a = .none := fun {a} h => by
    cases z : s1.heap.get? a with
    | none => rfl
    | some o => obtain ⟨o1, z1⟩ := x2.alive _ o z; rw [h] at z1; cases z1
  have back0 : ∀ {a : Addr}, s2.heap.get? a = .none → s.heap.get? a = .none := fun {a} h => by
    cases z : s.heap.get? a with
    | none => rfl
    | some o => obtain ⟨o1, z1⟩ := x12.alive _ o z; rw [h] at z1; cases z1
  have hCo : ¬ p.Own C := I2.fresh_own hCn
  have hCr : W2.role C = .oth := I2.hr.oth_of_none hCn
  have hCb : c.h0.get? C = .none := I2.hr.base_none hCn
  have hLC : p.env.locals ≠ C := fun q => hCo (.inl q.symm)
  have hcLt : ∀ y a, p.env.cells.lookup y = some a → @LT.lt Nat _ a C := fun y a q => by rw [← hCd]; exact I2.fr.cellLt q
  have hcC : ∀ y a, p.env.cells.lookup y = some a → a ≠ C := fun y a q => Nat.ne_of_lt (hcLt y a q)
  have x3 : Ext p.Own W2 s2 W2 { s2 with heap := h₁ } := Ext.keeps _ _ k3 rfl rfl
  have I3 : Inv c p W2 ⟨st1.loc, st1.ins, pushL1 st1.nl [] st1.lst, st1.nl + 1⟩ { s2 with heap := h₁ } := I2.keeps k3
  have F' := comp2_frame (p := p) (s := { s2 with heap := h₁ }) I3 D hCr hCb (fun _ => rfl) hns0 hcLt (fun y a q => ⟨(okc.empty y a q).1, (okc.empty y a q).2, I2.hr.oth_of_none (hOn y a q), I2.hr.base_none (hOn y a q)⟩) okc.apart
  have I' : Inv c (plC p scope tv cp C) W2 ⟨List.replicate tv.length .unb ++ capsL caps st1.loc, st1.ins, pushL1 st1.nl [] st1.lst, st1.nl + 1⟩ { s2 with heap := h₁ } := ⟨I3.hr.loc _, F'⟩
  have own' : ∀ a, (plC p scope tv cp C).Own a → s2.heap.get? a = .none := fun a q => by
    rcases q with q | q
    · have : a = C := q
      rw [this]; exact hCn
    · obtain ⟨x, hx, z⟩ := List.mem_filterMap.mp q
      exact hOn x a (mem_of_lookup z)
  have j3 := T.frame p.Own i W1 W2 st1 ⟨List.replicate tv.length .unb ++ capsL caps st1.loc, st1.ins, pushL1 st1.nl [] st1.lst, st1.nl + 1⟩ s1 { s2 with heap := h₁ } hfp j I1.hr (x2.trans x3) I'.hr
  have wrA : ∀ b ∈ wr, ∃ o, s1.heap.get? b = some o := fun b hb => let ⟨_, o, q⟩ := T.wrOk i W1 st1 s1.heap j b hb; ⟨o, q⟩
  have wrL : ∀ b ∈ wr, b ≠ p.env.locals := fun b hb q => by
    obtain ⟨ml, ⟨o1, es, ep, ho, _⟩, _⟩ := I.fr.ns
    rw [← q, hwr b hb] at ho; cases ho
  have wrC : ∀ b ∈ wr, ∀ y, p.env.cells.lookup y ≠ some b := fun b hb y q => by
    obtain ⟨v', o1, ho, _⟩ := I.fr.cells y b q
    rw [hwr b hb] at ho; cases ho
  have dead : ∀ b o, s1.heap.get? b = some o → s2.heap.get? b ≠ .none := fun b o q z => by rw [back z] at q; cases q
  have loop : codeAny (model c.prog c.w) (plC p scope tv cp C).A (.compLoop (.ListComp elt [⟨target, iter, ifs, 0⟩] scope pos) 0 (.ref It) acc (plC p scope tv cp C).env) (compPost (model c.prog c.w) p.A E use Q acc C) { s2 with heap := h₁ } := by
    refine comp_loop (p := plC p scope tv cp C) (q := p) T (fun b hb q => ?_) hr hg h1 ht h2 (fun b hb => I.hr.base_none (hwr b hb)) (fun b hb q => ?_) (fun b hb y q => ?_) wrL wrC (fun q => ?_) (fun y a q z => ?_) (own := fun a => p.Own a ∨ s2.heap.get? a = .none) (fun a q => .inr (own' a q)) hwr
      ((x12.trans x3).weaken fun _ q => .inl q) I' I3.fr r2 j3 he2 fun W' s' x' Iv' F' hK' => ?_
    · obtain ⟨o, z⟩ := T.alive i W1 st1 s1.heap j b hb
      exact dead b o z (own' b q)
    · obtain ⟨o, z⟩ := wrA b hb
      have : b = C := q
      rw [this] at z
      exact dead C o z hCn
    · have q' : (ownC scope C ++ clC p scope).lookup y = some b := q
      rw [look_app] at q'
      cases w : (ownC scope C).lookup y with
      | some b' =>
        rw [w] at q'
        cases q'
        obtain ⟨o, z⟩ := wrA b hb
        exact dead b o z (hOn y b (mem_of_lookup w))
      | none =>
        rw [w] at q'
        rcases closeL_mem (mem_of_lookup q') with z | z
        · cases z
        · exact wrC b hb y z
    · obtain ⟨ml, ⟨o1, es, ep, ho, _⟩, _⟩ := I2.fr.ns
      rw [own' _ q] at ho; cases ho
    · obtain ⟨v, o, ho, _⟩ := I2.fr.cells y a q
      rw [own' _ z] at ho; cases ho
    · obtain ⟨ml, hn', _⟩ := Iv'.fr.ns
      exact hEnd W' acc s' C (fun a => s2.heap.get? a = .none) (fun a h => back0 h) (back0 hCn) hCo Iv'.fr.roleL hCb ⟨ml, hn'⟩ hcC hLC x' ⟨Iv'.hr.loc _, F'⟩ hK'
  exact codeAny_compStart_list loop (T.self i W2 _ _ j3 _ _ loop)
theorem comp2_out {p : Pl} {C : Addr} {W W' : Wd} {s s' : Shared} {st : AS} {new : Addr → Prop} (hnew : ∀ a, new a → s.heap.get? a = .none) (hC0 : s.heap.get? C = .none) (hCr : W'.role C = .oth) (hCb : c.h0.get? C = .none) (hcC : ∀ y a, p.env.cells.lookup y = some a → a ≠ C) (hLC : p.env.locals ≠ C)
    (x : Ext (fun a => p.Own a ∨ new a) W s W' s') (I : Inv c p W' st s') {h' : Heap} (hs : Heap.SameBut C s'.heap h') : Ext p.Own W s W' { s' with heap := h' } ∧ Inv c p W' st { s' with heap := h' } := by
  refine comp_out hC0 hCr hCb hcC hLC ⟨x.le, x.alive, x.oth, fun a o hm hn q => x.kept a o hm (fun w => ?_) q, x.gens, x.os⟩ I hs
  rcases w with w | w
  · exact hn (.inl w)
  · rw [hnew a w] at q; cases q
theorem ImplE.comp2 {σ : Type} {gt : Expr → Bool} {f : Cm σ} {size : σ → AS → Nat} {nx : σ → AS → Option (Option (AV × σ))} {tgt : AV → Cm Unit} {ft : Cm Bool} {fe : Cm AV} {elt target iter : Expr} {ifs : List Expr} {scope : Scope} {pos : Pos} {tv cp : List Str} {caps : List Nat}
    (D : Comp2Is sx scope tv cp caps) (h0 : ImplI c n sx iter gt f nx) (h1 : ImplA c n (sxC sx scope tv cp) target tgt) (ht : ImplC c n (sxC sx scope tv cp) ifs ft) (h2 : ImplE c n (sxC sx scope tv cp) elt fe) (hg : gt target = true := by rfl) (hs : ∀ env x, foldedSetIterable iter env x = pure x := by intro _ _; rfl) :
    ImplE c n sx (.ListComp elt [⟨target, iter, ifs, 0⟩] scope pos) (compM tv.length caps f size nx tgt ft fe) := by
  intro p hsx hr W0 W st s hle I b st' e Q E hQ
  rw [eval_ListComp]
  refine comp2_core D h0 h1 ht h2 hg hs hsx hr I e fun W' acc s' C new q0 q1 q2 q3 q4 q5 q6 q7 x' I' r' => ?_
  obtain ⟨m, q5⟩ := q5
  refine ⟨m, q5, fun h' hsb => ?_⟩
  obtain ⟨x2, I2⟩ := comp2_out q0 q1 q3 q4 q6 q7 x' I' hsb
  exact hQ W' acc _ x2 I2 r'
theorem ImplS1.assignComp2 {σ : Type} {gt : Expr → Bool} {f : Cm σ} {size : σ → AS → Nat} {nx : σ → AS → Option (Option (AV × σ))} {tgt : AV → Cm Unit} {ft : Cm Bool} {fe : Cm AV} {elt target iter : Expr} {ifs : List Expr} {scope : Scope} {pos spos py : Pos} {tv cp : List Str} {caps : List Nat} {y : Str} {i : Nat}
    (D : Comp2Is sx scope tv cp caps) (h0 : ImplI c n sx iter gt f nx) (h1 : ImplA c n (sxC sx scope tv cp) target tgt) (ht : ImplC c n (sxC sx scope tv cp) ifs ft) (h2 : ImplE c n (sxC sx scope tv cp) elt fe) (hi : sx.vars[i]? = some y) (hw : sx.wr[i]? = some y)
    (hsw : swapsWith (.ListComp elt [⟨target, iter, ifs, 0⟩] scope pos) (some (.Name y py)) spos.line (envS sx.sc) = pure true := by rfl) (hg : gt target = true := by rfl) (hs : ∀ env x, foldedSetIterable iter env x = pure x := by intro _ _; rfl) :
    ImplS1 c n sx (.Assign [.Name y py] (.ListComp elt [⟨target, iter, ifs, 0⟩] scope pos) spos) (asgM (compM tv.length caps f size nx tgt ft fe) (setV i)) := by
  intro p hsx hr W0 W st s hle I b st' e Q E hQ
  obtain ⟨v, st1, e1, e2⟩ := bd_some e
  obtain ⟨u, st2, e3, e4⟩ := bd_some e2
  cases e4
  have hsc : p.env.scope = sx.sc := by rw [I.fr.scope, hsx]
  rw [exec_Assign_Name_used _ _ _ _ (by rw [swaps1_static hsc]; exact hsw)]
  refine wpAny_bind (wpAny_standAt (wpAny_bind ?_))
  show wpAny _ p.A (do let _ ← comprehension (.ListComp elt [⟨target, iter, ifs, 0⟩] scope pos) scope p.env _ (newList []) false (eval iter p.env) (some (PySem.assign (Expr.Name y py) p.env))) _ _ s
  refine wpAny_bind (wpAny_mono (comp2_core (use := some (PySem.assign (Expr.Name y py) p.env)) (Q := fun _ s' => Q .next s') (E := E) D h0 h1 ht h2 hg hs hsx hr I e1 fun W' acc s' C new q0 q1 q2 q3 q4 q5 q6 q7 x' I' r' => ?_) (fun _ s' hq => wpAny_pure (wpAny_pure hq)) fun _ _ q => q)
  obtain ⟨m, q5⟩ := q5
  show wpAny _ _ (PySem.assign (Expr.Name y py) p.env acc) _ E s'
  refine ImplA.name (n := n) hi hw p hsx hr W' acc v r' W' st1 s' (Le.refl _) I' u st' e3 _ E fun W2 _ s2 x2 I2 _ => ?_
  have kC : ∀ o, s'.heap.get? C = some o → s2.heap.get? C = some o := fun o q => x2.kept C o (by unfold Wd.Mut; rw [q3]; exact fun z => z) q2 q
  refine ⟨m, q5.at' kC, fun h' hsb => ?_⟩
  obtain ⟨o, _, _, ho, _⟩ := q5
  obtain ⟨x3, I3⟩ := comp2_out (c := c) q0 q1 (x2.oth C o ho q3) q4 q6 q7 (x'.trans (x2.weaken fun _ q => .inl q)) I2 hsb
  exact hQ W2 .next _ x3 I3 .next
end
end Mine

namespace Mine

section
variable {c : Cx} {n : Nat} {sx : Sx}

noncomputable def lenBM : List AV → Cm AV := fun xs st => match xs with
  | [.bytes b] => if b.size ≤ 100000 then some (.int b.size, st) else .none
  | xs => lenM xs st
theorem lenB_ok : OkCall c n (.builtin "len") lenBM := by
  intro p hr W0 vs xs hv W st s hle I b st' e Q E hQ
  unfold lenBM at e
  split at e
  · split at e
    · rename_i bb hb
      cases e
      cases hv with
      | cons h1 h2 =>
        cases h2
        obtain ⟨t, rfl⟩ := h1.inv_bytes
        exact len_bytes (by omega) (hQ W _ _ ((Ext.refl ..).toks _) (I.toks _) (.int _ _))
    · cases e
  · exact len_ok p hr W0 vs xs hv W st s hle I b st' e Q E hQ
noncomputable def chrM : List AV → Cm AV := fun xs => match xs with
  | [.int i] => if 0 ≤ i ∧ i ≤ 1114111 then pu (.str ⟨#[i.toNat]⟩) else no
  | _ => no
theorem chr_ok : OkCall c n (.builtin "chr") chrM := by
  intro p hr W0 vs xs hv W st s hle I b st' e Q E hQ
  unfold chrM at e
  split at e
  · split at e
    · rename_i i hi
      cases e
      cases hv with
      | cons h1 h2 =>
        cases h2
        obtain ⟨t, rfl⟩ := h1.inv_int
        exact chr_of_range hi.1 hi.2 (hQ W _ _ ((Ext.refl ..).toks _) (I.toks _) (.str _ _))
    · cases e
  · cases e
noncomputable def ordM : List AV → Cm AV := fun xs => match xs with
  | [.str x] => if x.length = 1 then pu (.int ((x.cps.getD 0 0 : Nat) : Int)) else no
  | _ => no
theorem ord_ok : OkCall c n (.builtin "ord") ordM := by
  intro p hr W0 vs xs hv W st s hle I b st' e Q E hQ
  unfold ordM at e
  split at e
  · split at e
    · rename_i x hx
      cases e
      cases hv with
      | cons h1 h2 =>
        cases h2
        obtain ⟨t, rfl⟩ := h1.inv_str
        exact ord_of_one hx (hQ W _ _ ((Ext.refl ..).toks _) (I.toks _) (.int _ _))
    · cases e
  · cases e
noncomputable def maxI (m : Int) (ns : List Int) : Int := ns.foldl max m
theorem maxI_ge : ∀ (ns : List Int) (m : Int), m ≤ maxI m ns ∧ ∀ a ∈ ns, a ≤ maxI m ns
  | [], m => ⟨Int.le_refl _, fun _ h => by cases h⟩
  | b :: r, m => by
    obtain ⟨h1, h2⟩ := maxI_ge r (max m b)
    have e : maxI m (b :: r) = maxI (max m b) r := rfl
    rw [e]
    refine ⟨by omega, fun a ha => ?_⟩
    rcases List.mem_cons.mp ha with rfl | ha
    · omega
    · exact h2 a ha
theorem maxI_mem : ∀ (ns : List Int) (m : Int), maxI m ns = m ∨ maxI m ns ∈ ns
  | [], m => .inl rfl
  | b :: r, m => by
    have e : maxI m (b :: r) = maxI (max m b) r := rfl
    rw [e]
    rcases maxI_mem r (max m b) with h | h
    · rw [h]
      rcases Int.le_total m b with q | q
      · exact .inr (by rw [Int.max_eq_right q]; exact List.mem_cons_self)
      · exact .inl (Int.max_eq_left q)
    · exact .inr (List.mem_cons_of_mem _ h)
noncomputable def maxM : List AV → Cm AV := fun xs st => match xs with
  | [x] => (match itemsM x st with
    | some (ys, _) => (match intsOf ys with
      | some (m :: ns) => some (.int (maxI m ns), st)
      | _ => .none)
    | .none => .none)
  | _ => .none
theorem max_ok : OkCall c n (.builtin "max") maxM := by
  intro p hr W0 vs xs hv W st s hle I b st' e Q E hQ
  unfold maxM at e
  split at e
  · rename_i x
    split at e
    · rename_i ys q he
      split at e
      · rename_i m ns hi
        cases e
        cases hv with
        | cons h1 h2 =>
          cases h2
          obtain ⟨a, us, k, rfl, hg, hvs⟩ := items_hr I.hr (h1.mono hle) he
          have hia := intsOf_are hvs hi
          have hL : s.heap.IsList a us.toArray := ⟨_, hg, rfl, _, rfl⟩
          obtain ⟨zs, hz⟩ := hia.allInts.items
          have hnum : numsOf us.toArray.toList = m :: ns := hia.numsOf
          rw [hz] at hL hnum
          rw [nums_intItems] at hnum
          have hsz : 0 < zs.size := by
            have := congrArg List.length hnum
            simp at this; omega
          refine max_intList hr.1 hL hsz fun v h' tk hv' hk => ?_
          obtain ⟨t, rfl⟩ := intItems_at hv'
          obtain ⟨g1, g2⟩ := argBest_gt (numAt zs) (zs.size - 1)
          have hM1 : numAt zs (argBest (fun i j => decide (numAt zs i > numAt zs j)) (zs.size - 1)) ∈ m :: ns := by
            rw [← hnum, numAt_eq]; exact getD_mem (by rw [List.length_map, Array.length_toList]; omega)
          have hM2 : ∀ a, a ∈ m :: ns → a ≤ numAt zs (argBest (fun i j => decide (numAt zs i > numAt zs j)) (zs.size - 1)) := fun a ha => by
            rw [← hnum] at ha
            obtain ⟨j, hj, rfl⟩ := mem_getD ha
            rw [List.length_map, Array.length_toList] at hj
            rw [← numAt_eq]; exact g2 j (by omega)
          have hm : numAt zs (argBest (fun i j => decide (numAt zs i > numAt zs j)) (zs.size - 1)) = maxI m ns := by
            obtain ⟨q1, q2⟩ := maxI_ge ns m
            apply Int.le_antisymm
            · rcases List.mem_cons.mp hM1 with z | z
              · rw [z]; exact q1
              · exact q2 _ z
            · rcases maxI_mem ns m with z | z
              · rw [z]; exact hM2 m List.mem_cons_self
              · exact hM2 _ (List.mem_cons_of_mem _ z)
          rw [hm]
          exact hQ W _ _ (Ext.keeps _ _ hk rfl rfl) (I.keeps hk) (.int _ _)
      · cases e
    · cases e
  · cases e
noncomputable def nsEq : AV → AV → Option Bool := fun x y => match x with
  | .none => (match y with | .none => some true | .str _ => some false | _ => .none)
  | .str a => (match y with | .none => some false | .str b => some (a == b) | _ => .none)
  | _ => .none
noncomputable def nsV (w v : Value) : Bool := match v, w with
  | .none, .none => true
  | .str a _, .str b _ => a == b
  | _, _ => false
theorem nsEq_ok {A : Around} {s : Shared} {W : Wd} {v w : Value} {x y : AV} {b : Bool} (hv : VR W v x) (hw : VR W w y) (h : nsEq x y = some b) : PySem.SeqAt.EqAt A s v w b ∧ nsV w v = b := by
  cases x with
  | none =>
    obtain rfl := hv.inv_none
    cases y with
    | none => cases h; obtain rfl := hw.inv_none; exact ⟨PySem.SeqAt.EqAt.same _, rfl⟩
    | str _ => cases h; obtain ⟨_, rfl⟩ := hw.inv_str; exact ⟨PySem.SeqAt.EqAt.none_str _ _, rfl⟩
    | _ => cases h
  | str a =>
    obtain ⟨_, rfl⟩ := hv.inv_str
    cases y with
    | none => cases h; obtain rfl := hw.inv_none; exact ⟨PySem.SeqAt.EqAt.str_none _ _, rfl⟩
    | str _ => cases h; obtain ⟨_, rfl⟩ := hw.inv_str; exact ⟨PySem.SeqAt.EqAt.str_str _ _ _ _, rfl⟩
    | _ => cases h
  | _ => cases h
noncomputable def nsIdx (y : AV) : List AV → Option Nat
  | [] => .none
  | x :: r => (match nsEq x y with
    | some true => some 0
    | some false => (match nsIdx y r with | some j => some (j + 1) | .none => .none)
    | .none => .none)
theorem nsIdx_spec {y : AV} : ∀ {xs : List AV} {j : Nat}, nsIdx y xs = some j → (∃ x, xs[j]? = some x ∧ nsEq x y = some true) ∧ ∀ m, m < j → ∃ x, xs[m]? = some x ∧ nsEq x y = some false
  | [], j, h => by cases h
  | x :: r, j, h => by
    simp only [nsIdx] at h
    split at h
    · rename_i q; cases h; exact ⟨⟨x, rfl, q⟩, fun m hm => absurd hm (Nat.not_lt_zero _)⟩
    · rename_i q
      split at h
      · rename_i j' hj
        cases h
        obtain ⟨h1, h2⟩ := nsIdx_spec hj
        refine ⟨h1, fun m hm => ?_⟩
        cases m with
        | zero => exact ⟨x, rfl, q⟩
        | succ m => exact h2 m (by omega)
      · cases h
    · cases h
noncomputable def indexM : AV → List AV → Cm AV := fun x ys st => match ys with
  | [y] => (match itemsM x st with
    | some (xs, _) => if (xs.all fun z => (nsEq z y).isSome) = true ∧ xs.length ≤ 1000 then (match nsIdx y xs with | some j => some (.int (j : Nat), st) | .none => .none) else .none
    | .none => .none)
  | _ => .none
theorem index_ok : OkMeth c n "list.index" indexM := by
  intro p hr W0 o x vs xs ho hvs W st s hle I b st' e Q E hQ
  unfold indexM at e
  split at e
  · rename_i y
    split at e
    · rename_i zs q he
      split at e
      · rename_i hk
        split at e
        · rename_i j hj
          cases e
          cases hvs with
          | @cons wv _ _ _ h1 h2 =>
            cases h2
            have h1 := h1.mono hle
            obtain ⟨a, us, m, rfl, hg, hus⟩ := items_hr I.hr (ho.mono hle) he
            obtain ⟨⟨xj, e1, e2⟩, e3⟩ := nsIdx_spec hj
            obtain ⟨vj, f1, f2⟩ := hus.get e1
            have hjl : j < us.length := (List.getElem?_eq_some_iff.mp f1).1
            have hul := hus.length
            have hvj : us[j] = vj := (List.getElem?_eq_some_iff.mp f1).2
            refine call_meets PySem.F.slot_list_index ⟨_, hg, rfl⟩ PySem.F.entry_list_index (PySem.F.args_list_index_2 _ _) (PySem.SeqAt.list_indexAt a us.toArray m .none #[] wv (nsV wv) j (by rw [List.size_toArray]; exact hjl) (by omega) ?_ (fun m' hm hmj => ?_)) ⟨hg, fun v hv => ?_, ?_⟩
            · rw [List.getElem_toArray, hvj]; exact (nsEq_ok (A := p.A) (s := s) f2 h1 e2).2
            · obtain ⟨xm, g1, g2⟩ := e3 m' hmj
              obtain ⟨vm, g3, g4⟩ := hus.get g1
              have : us[m']'(by rw [List.size_toArray] at hm; exact hm) = vm := (List.getElem?_eq_some_iff.mp g3).2
              rw [List.getElem_toArray, this]; exact (nsEq_ok (A := p.A) (s := s) g4 h1 g2).2
            · obtain ⟨k, hk1, hk2⟩ := List.getElem_of_mem (List.mem_toArray.mp hv)
              obtain ⟨xk, g1, g2⟩ := hus.getv (List.getElem?_eq_some_iff.mpr ⟨hk1, hk2⟩)
              have := List.all_eq_true.mp hk.1 xk (List.mem_of_getElem? g1)
              obtain ⟨bb, hbb⟩ := Option.isSome_iff_exists.mp this
              have := nsEq_ok (A := p.A.in1) (s := s) g2 h1 hbb
              rw [this.2]; exact this.1
            · exact hQ W _ _ ((Ext.refl ..).toks _) (I.toks _) (.int _ _)
        · cases e
      · cases e
    · cases e
  · cases e
noncomputable def item2M : AV → AV → Cm AV := fun o i => match o with
  | .bytes b => (match i with
    | .int k => if 0 ≤ k ∧ k < b.size ∧ b.size ≤ 100000 then pu (.int ((b.toList.getD k.toNat 0).toNat : Nat)) else no
    | _ => no)
  | .str x => (match i with
    | .int k => if -1000000 ≤ k ∧ k ≤ 1000000 then (match (seqIndex? k x.length).bind (x.cps[·]?) with | some ch => pu (.str ⟨#[ch]⟩) | .none => no) else no
    | _ => no)
  | o => getItemM o i
theorem item2_ok {p : Pl} {value slice : Expr} {W0 : Wd} {o i : Value} {x y : AV} (ho : VR W0 o x) (hi : VR W0 i y) (hs : ∀ o i, subscripted slice false o i = operate [o, i] (getItem o i)) : Ok c p W0 (subscriptTail value slice o i) VR (item2M x y) := by
  intro W st s hle I b st' e Q E hQ
  cases x with
  | bytes bb =>
    obtain ⟨t, rfl⟩ := ho.inv_bytes
    cases y with
    | int k =>
      obtain ⟨u, rfl⟩ := hi.inv_int
      simp only [item2M] at e
      split at e
      · rename_i hk
        cases e
        refine tail_any (T := "bytes") (typeIs_bytes s _ t) FB.slot_bytes_getitem.lookup ?_ (hs _ _)
        have := getItem_bytes (prog := c.prog) (w := c.w) (A := p.A) (E := E) (s := s) (l := bb.toList) (i := k) (t := t) (u := u) (Q := Q) (by rw [Array.length_toList]; omega) hk.1 (by rw [Array.length_toList]; exact hk.2.1) (hQ W _ _ ((Ext.refl ..).toks _) (I.toks _) (.int _ _))
        simpa using this
      · cases e
    | _ => cases e
  | str z =>
    obtain ⟨t, rfl⟩ := ho.inv_str
    cases y with
    | int k =>
      obtain ⟨u, rfl⟩ := hi.inv_int
      simp only [item2M] at e
      split at e
      · rename_i hk
        cases hch : (seqIndex? k z.length).bind (z.cps[·]?) with
        | none => rw [hch] at e; cases e
        | some ch =>
          rw [hch] at e
          cases e
          refine tail_any (T := "str") (typeIs_str s _ t) PySem.F.slot_str_getitem.lookup (P.getItem_str (by simp; omega) hch ?_) (hs _ _)
          exact hQ W _ _ ((Ext.refl ..).toks _) (I.toks _) (.str _ _)
      · cases e
    | _ => cases e
  | _ => exact getItem_ok ho hi hs W st s hle I b st' e Q E hQ
theorem ImplE.item2 {value slice : Expr} {pos : Pos} {f g : Cm AV} (h1 : ImplE c n sx value f) (h2 : ImplE c n sx slice g) (hs : notSlice slice = true := by rfl) : ImplE c n sx (.Subscript value slice pos) (bin2 f g item2M) := by
  intro p hsx hr W0 W st s hle I b st' e Q E hQ
  obtain ⟨x, st1, e1, e2⟩ := bd_some e
  obtain ⟨y, st2, e3, e4⟩ := bd_some e2
  refine Subscript_ (h1 p hsx hr W W st s (Le.refl _) I x st1 e1 _ E fun W1 a s1 x1 I1 r1 => ?_)
  refine h2 p hsx hr W1 W1 st1 s1 (Le.refl _) I1 y st2 e3 _ E fun W2 vb s2 x2 I2 r2 => ?_
  exact item2_ok (r1.mono x2.le) r2 (sub_plain hs) W2 st2 s2 (Le.refl _) I2 b st' e4 Q E fun W3 v s3 x3 I3 r3 => hQ W3 v s3 ((x1.trans x2).trans x3) I3 r3
noncomputable def strsOf : List AV → Option (List Str)
  | [] => some []
  | .str x :: r => (match strsOf r with | some ys => some (x :: ys) | .none => .none)
  | _ :: _ => .none
theorem strsOf_are {W : Wd} : ∀ {vs : List Value} {xs : List AV} {ys : List Str}, VRs W vs xs → strsOf xs = some ys → StrsAre vs ys
  | _, _, _, .nil, h => by cases h; exact .nil
  | _, x :: xs, _, .cons a r, h => by
    cases x with
    | str i =>
      obtain ⟨t, rfl⟩ := a.inv_str
      simp only [strsOf] at h
      split at h
      · rename_i ys e; cases h; exact .cons _ _ (strsOf_are r e)
      · cases h
    | _ => cases h
noncomputable def joinM (fo : Cm AV) (fs : Cm (List AV)) : Cm AV := bd fo fun x => bd fs fun ys => fun st => match x, ys with
  | .str sep, [y] => (match itemsM y st with
    | some (zs, _) => (match strsOf zs with
      | some ts => if sep.length ≤ 16 ∧ (ts.map (·.length)).sum + ts.length ≤ 1048576 then some (.str (Txt.join sep ts), st) else .none
      | .none => .none)
    | .none => .none)
  | _, _ => .none
theorem ImplE.join {o : Expr} {apos pos : Pos} {es : List Expr} {fo : Cm AV} {fs : Cm (List AV)} (h0 : ImplE c n sx o fo) (h1 : ImplEs c n sx es fs)
    (hb : ∀ env t, attributeBase o "join" env t = t := by intro _ _; rfl) (hp : es.all plainX = true := by rfl) (hl : (apos.endLine == pos.line) = true := by rfl) (hfew : decide (es.length < 30) = true := by rfl) :
    ImplE c n sx (.Call (.Attribute o "join" apos) es [] pos) (joinM fo fs) := by
  intro p hsx hr W0 W st s hle I b st' e Q E hQ
  obtain ⟨x, st1, e1, e2⟩ := bd_some e
  obtain ⟨ys, st2, e5, e6⟩ := bd_some e2
  rw [arm_eval_Call, hb]
  refine wpAny_bind (h0 p hsx hr W W st s (Le.refl _) I x st1 e1 _ E fun W1 ov s1 x1 I1 r1 => wpAny_bind (wpAny_standAt ?_))
  split at e6
  · rename_i sep y
    obtain ⟨t, rfl⟩ := r1.inv_str
    have hform : methodCallForm (es.length + ([] : List Keyword).length) (backTo pos (starEach es p.env)) (backToKw pos (keywordEach [] p.env)) = true := by
      unfold methodCallForm
      have h1 : (backTo pos (starEach es p.env)).all (fun x => !x.1) = true := by
        have := any_false (env := p.env) (pos := pos) hp
        rw [List.all_eq_not_any_not]; simpa using this
      rw [h1]
      show (true && true && decide (es.length + 0 + 0 < 30)) = true
      simpa using hfew
    have hpos : methodCallPos true o p.env apos pos = pure pos := by unfold methodCallPos; simp [hl]
    unfold methodCall
    rw [hform]
    refine wpAny_bind (wpAny_holding ?_)
    show wpAny _ _ (getMethod (.str sep t) "join" _) _ _ _
    refine GM.join ?_
    refine wpAny_bind (wpAny_of_eq hpos ?_)
    refine Calls.callWith_builtin (any_false hp) (evalArgs_row hp ?_)
    refine h1 p hsx hr W1 pos W1 st1 s1 (Le.refl _) I1 [y] st2 e5 _ E fun W2 ws s2 x2 I2 r2 => ?_
    cases r2 with
    | cons ry rr =>
      cases rr
      split at e6
      · rename_i zs q he
        split at e6
        · rename_i ts hts
          split at e6
          · rename_i hk
            cases e6
            obtain ⟨a, us, m, rfl, hg, hus⟩ := items_hr I2.hr ry he
            refine join_listW (items := us.toArray) ⟨_, hg, rfl, _, rfl⟩ (strsOf_are hus hts) hk.1 hk.2 fun t' k => ?_
            exact hQ W2 _ _ ((x1.trans x2).trans ((Ext.refl ..).toks _)) (I2.toks _) (.str _ _)
          · cases e6
        · cases e6
      · cases e6
  · cases e6
end
end Mine

set_option maxRecDepth 100000 in
set_option maxHeartbeats 8000000 in
open_top hd03 for PySem.Challenge.rw_dn0304_03
namespace Mine
set_option maxHeartbeats 4000000
section
variable {w : World} {h0 : Heap} {mg mb : Str → Option Value} {n : Nat} {sx : Sx}
noncomputable abbrev cx (w : World) (h0 : Heap) (mg mb : Str → Option Value) : Cx := ⟨PySem.Challenge.rw_dn0304_03.row.prog, w, hd03.heap_39 w.params, 102, h0, mg, mb⟩

theorem cls : Cls (cx w h0 mg mb) where
  makes := by show makesIn (hd03.heap_39 w.params) 102 = true; k_is
  ga := by show findIn (hd03.heap_39 w.params) (.ref 102) (Str.ofString "__getattribute__") = _; k_is
  gat := by show findIn (hd03.heap_39 w.params) (.ref 102) (Str.ofString "__getattr__") = _; k_is
  sa := by show findIn (hd03.heap_39 w.params) (.ref 102) (Str.ofString "__setattr__") = _; k_is
  plain := by show plainOver (hd03.heap_39 w.params) 102 = true; k_is
  hasDict := by show hasDictIn (hd03.heap_39 w.params) 102 = true; k_is
  fields := fun f => by
    cases f
    · show findIn (hd03.heap_39 w.params) (.ref 102) (Str.ofString "_InputSource__system_id") = _; k_is
    · show findIn (hd03.heap_39 w.params) (.ref 102) (Str.ofString "_InputSource__public_id") = _; k_is
    · show findIn (hd03.heap_39 w.params) (.ref 102) (Str.ofString "_InputSource__encoding") = _; k_is
    · show findIn (hd03.heap_39 w.params) (.ref 102) (Str.ofString "_InputSource__bytefile") = _; k_is
    · show findIn (hd03.heap_39 w.params) (.ref 102) (Str.ofString "_InputSource__charfile") = _; k_is
  keep := by show keepIn (hd03.heap_39 w.params) (.ref 102) = true; k_is

theorem m_getSystemId : MethIs (cx w h0 mg mb) "getSystemId" 57 where
  find := by show findIn (hd03.heap_39 w.params) (.ref 102) (Str.ofString "getSystemId") = _; k_is
  typ := by show typeIn (hd03.heap_39 w.params) (.ref 57) = _; k_is
  fn := ⟨_, _, _, _, by show List.lookup 57 (hd03.heap_39 w.params) = _; k_is⟩
  other := fun f => by cases f <;> decide +kernel
theorem f_getSystemId (G : Gd (cx w h0 mg mb)) : ImplF (cx w h0 mg mb) (n + 1) 57 (getF .sys) := getter_ok G cls (x := "self") (f := .sys) ⟨⟨_, _, _, by show List.lookup 57 (hd03.heap_39 w.params) = _; k_is⟩, rfl, rfl, rfl, rfl, by show codeIn (hd03.heap_39 w.params) _ _ = true; k_is, rfl, rfl, rfl, fun vals h => match vals, h with | [_], _ => rfl, by decide +kernel, by decide +kernel⟩ (by decide +kernel)
theorem m_setSystemId : MethIs (cx w h0 mg mb) "setSystemId" 50 where
  find := by show findIn (hd03.heap_39 w.params) (.ref 102) (Str.ofString "setSystemId") = _; k_is
  typ := by show typeIn (hd03.heap_39 w.params) (.ref 50) = _; k_is
  fn := ⟨_, _, _, _, by show List.lookup 50 (hd03.heap_39 w.params) = _; k_is⟩
  other := fun f => by cases f <;> decide +kernel
theorem f_setSystemId (G : Gd (cx w h0 mg mb)) : ImplF (cx w h0 mg mb) (n + 1) 50 (setF .sys) := setter_ok G cls (x := "self") (y := "system_id") (f := .sys) ⟨⟨_, _, _, by show List.lookup 50 (hd03.heap_39 w.params) = _; k_is⟩, rfl, rfl, rfl, rfl, by show codeIn (hd03.heap_39 w.params) _ _ = true; k_is, rfl, rfl, rfl, fun vals h => match vals, h with | [_, _], _ => rfl, by decide +kernel, by decide +kernel⟩ (by decide +kernel) (by decide +kernel)
theorem m_getPublicId : MethIs (cx w h0 mg mb) "getPublicId" 43 where
  find := by show findIn (hd03.heap_39 w.params) (.ref 102) (Str.ofString "getPublicId") = _; k_is
  typ := by show typeIn (hd03.heap_39 w.params) (.ref 43) = _; k_is
  fn := ⟨_, _, _, _, by show List.lookup 43 (hd03.heap_39 w.params) = _; k_is⟩
  other := fun f => by cases f <;> decide +kernel
theorem f_getPublicId (G : Gd (cx w h0 mg mb)) : ImplF (cx w h0 mg mb) (n + 1) 43 (getF .pub) := getter_ok G cls (x := "self") (f := .pub) ⟨⟨_, _, _, by show List.lookup 43 (hd03.heap_39 w.params) = _; k_is⟩, rfl, rfl, rfl, rfl, by show codeIn (hd03.heap_39 w.params) _ _ = true; k_is, rfl, rfl, rfl, fun vals h => match vals, h with | [_], _ => rfl, by decide +kernel, by decide +kernel⟩ (by decide +kernel)
theorem m_setPublicId : MethIs (cx w h0 mg mb) "setPublicId" 36 where
  find := by show findIn (hd03.heap_39 w.params) (.ref 102) (Str.ofString "setPublicId") = _; k_is
  typ := by show typeIn (hd03.heap_39 w.params) (.ref 36) = _; k_is
  fn := ⟨_, _, _, _, by show List.lookup 36 (hd03.heap_39 w.params) = _; k_is⟩
  other := fun f => by cases f <;> decide +kernel
theorem f_setPublicId (G : Gd (cx w h0 mg mb)) : ImplF (cx w h0 mg mb) (n + 1) 36 (setF .pub) := setter_ok G cls (x := "self") (y := "public_id") (f := .pub) ⟨⟨_, _, _, by show List.lookup 36 (hd03.heap_39 w.params) = _; k_is⟩, rfl, rfl, rfl, rfl, by show codeIn (hd03.heap_39 w.params) _ _ = true; k_is, rfl, rfl, rfl, fun vals h => match vals, h with | [_, _], _ => rfl, by decide +kernel, by decide +kernel⟩ (by decide +kernel) (by decide +kernel)
theorem m_getEncoding : MethIs (cx w h0 mg mb) "getEncoding" 71 where
  find := by show findIn (hd03.heap_39 w.params) (.ref 102) (Str.ofString "getEncoding") = _; k_is
  typ := by show typeIn (hd03.heap_39 w.params) (.ref 71) = _; k_is
  fn := ⟨_, _, _, _, by show List.lookup 71 (hd03.heap_39 w.params) = _; k_is⟩
  other := fun f => by cases f <;> decide +kernel
theorem f_getEncoding (G : Gd (cx w h0 mg mb)) : ImplF (cx w h0 mg mb) (n + 1) 71 (getF .enc) := getter_ok G cls (x := "self") (f := .enc) ⟨⟨_, _, _, by show List.lookup 71 (hd03.heap_39 w.params) = _; k_is⟩, rfl, rfl, rfl, rfl, by show codeIn (hd03.heap_39 w.params) _ _ = true; k_is, rfl, rfl, rfl, fun vals h => match vals, h with | [_], _ => rfl, by decide +kernel, by decide +kernel⟩ (by decide +kernel)
theorem m_setEncoding : MethIs (cx w h0 mg mb) "setEncoding" 64 where
  find := by show findIn (hd03.heap_39 w.params) (.ref 102) (Str.ofString "setEncoding") = _; k_is
  typ := by show typeIn (hd03.heap_39 w.params) (.ref 64) = _; k_is
  fn := ⟨_, _, _, _, by show List.lookup 64 (hd03.heap_39 w.params) = _; k_is⟩
  other := fun f => by cases f <;> decide +kernel
theorem f_setEncoding (G : Gd (cx w h0 mg mb)) : ImplF (cx w h0 mg mb) (n + 1) 64 (setF .enc) := setter_ok G cls (x := "self") (y := "encoding") (f := .enc) ⟨⟨_, _, _, by show List.lookup 64 (hd03.heap_39 w.params) = _; k_is⟩, rfl, rfl, rfl, rfl, by show codeIn (hd03.heap_39 w.params) _ _ = true; k_is, rfl, rfl, rfl, fun vals h => match vals, h with | [_, _], _ => rfl, by decide +kernel, by decide +kernel⟩ (by decide +kernel) (by decide +kernel)
theorem m_getByteStream : MethIs (cx w h0 mg mb) "getByteStream" 85 where
  find := by show findIn (hd03.heap_39 w.params) (.ref 102) (Str.ofString "getByteStream") = _; k_is
  typ := by show typeIn (hd03.heap_39 w.params) (.ref 85) = _; k_is
  fn := ⟨_, _, _, _, by show List.lookup 85 (hd03.heap_39 w.params) = _; k_is⟩
  other := fun f => by cases f <;> decide +kernel
theorem f_getByteStream (G : Gd (cx w h0 mg mb)) : ImplF (cx w h0 mg mb) (n + 1) 85 (getF .byt) := getter_ok G cls (x := "self") (f := .byt) ⟨⟨_, _, _, by show List.lookup 85 (hd03.heap_39 w.params) = _; k_is⟩, rfl, rfl, rfl, rfl, by show codeIn (hd03.heap_39 w.params) _ _ = true; k_is, rfl, rfl, rfl, fun vals h => match vals, h with | [_], _ => rfl, by decide +kernel, by decide +kernel⟩ (by decide +kernel)
theorem m_setByteStream : MethIs (cx w h0 mg mb) "setByteStream" 78 where
  find := by show findIn (hd03.heap_39 w.params) (.ref 102) (Str.ofString "setByteStream") = _; k_is
  typ := by show typeIn (hd03.heap_39 w.params) (.ref 78) = _; k_is
  fn := ⟨_, _, _, _, by show List.lookup 78 (hd03.heap_39 w.params) = _; k_is⟩
  other := fun f => by cases f <;> decide +kernel
theorem f_setByteStream (G : Gd (cx w h0 mg mb)) : ImplF (cx w h0 mg mb) (n + 1) 78 (setF .byt) := setter_ok G cls (x := "self") (y := "bytefile") (f := .byt) ⟨⟨_, _, _, by show List.lookup 78 (hd03.heap_39 w.params) = _; k_is⟩, rfl, rfl, rfl, rfl, by show codeIn (hd03.heap_39 w.params) _ _ = true; k_is, rfl, rfl, rfl, fun vals h => match vals, h with | [_, _], _ => rfl, by decide +kernel, by decide +kernel⟩ (by decide +kernel) (by decide +kernel)
theorem m_getCharacterStream : MethIs (cx w h0 mg mb) "getCharacterStream" 99 where
  find := by show findIn (hd03.heap_39 w.params) (.ref 102) (Str.ofString "getCharacterStream") = _; k_is
  typ := by show typeIn (hd03.heap_39 w.params) (.ref 99) = _; k_is
  fn := ⟨_, _, _, _, by show List.lookup 99 (hd03.heap_39 w.params) = _; k_is⟩
  other := fun f => by cases f <;> decide +kernel
theorem f_getCharacterStream (G : Gd (cx w h0 mg mb)) : ImplF (cx w h0 mg mb) (n + 1) 99 (getF .chr) := getter_ok G cls (x := "self") (f := .chr) ⟨⟨_, _, _, by show List.lookup 99 (hd03.heap_39 w.params) = _; k_is⟩, rfl, rfl, rfl, rfl, by show codeIn (hd03.heap_39 w.params) _ _ = true; k_is, rfl, rfl, rfl, fun vals h => match vals, h with | [_], _ => rfl, by decide +kernel, by decide +kernel⟩ (by decide +kernel)
theorem m_setCharacterStream : MethIs (cx w h0 mg mb) "setCharacterStream" 92 where
  find := by show findIn (hd03.heap_39 w.params) (.ref 102) (Str.ofString "setCharacterStream") = _; k_is
  typ := by show typeIn (hd03.heap_39 w.params) (.ref 92) = _; k_is
  fn := ⟨_, _, _, _, by show List.lookup 92 (hd03.heap_39 w.params) = _; k_is⟩
  other := fun f => by cases f <;> decide +kernel
theorem f_setCharacterStream (G : Gd (cx w h0 mg mb)) : ImplF (cx w h0 mg mb) (n + 1) 92 (setF .chr) := setter_ok G cls (x := "self") (y := "charfile") (f := .chr) ⟨⟨_, _, _, by show List.lookup 92 (hd03.heap_39 w.params) = _; k_is⟩, rfl, rfl, rfl, rfl, by show codeIn (hd03.heap_39 w.params) _ _ = true; k_is, rfl, rfl, rfl, fun vals h => match vals, h with | [_, _], _ => rfl, by decide +kernel, by decide +kernel⟩ (by decide +kernel) (by decide +kernel)
theorem init : ∃ fd body, InitIs (cx w h0 mg mb) 29 fd body "self" "system_id" :=
  ⟨_, _, by show findIn (hd03.heap_39 w.params) (.ref 102) (Str.ofString "__init__") = _; k_is, by show typeIn (hd03.heap_39 w.params) (.ref 29) = _; k_is, ⟨_, _, _, by show List.lookup 29 (hd03.heap_39 w.params) = _; k_is⟩, rfl, by show codeIn (hd03.heap_39 w.params) _ _ = true; k_is, rfl, rfl, rfl, by decide, fun _ _ => rfl, fun _ _ _ => rfl, rfl, rfl, by decide, by decide +kernel, by decide +kernel, ⟨_, _, _, _, _, _, _, _, _, _, _, _, _, _, _, _, _, _, _, _, _, _, _, _, rfl⟩⟩
theorem g_InputSource (G : Gd (cx w h0 mg mb)) : (cx w h0 mg mb).Glob "InputSource" (.ref 102) := .inl (mg_of (K := hd03.heap_39 w.params) G.inK G.g (by show nsIn (hd03.heap_39 w.params) mainGlobals (Str.ofString "InputSource") = _; k_is))
theorem r_law_names : ∃ oc od fd osl, (cx w h0 mg mb).K.lookup 127 = some ⟨oc, od, .func fd, osl⟩ := ⟨_, _, _, _, by show List.lookup 127 (hd03.heap_39 w.params) = _; k_is⟩
theorem g_law_names (G : Gd (cx w h0 mg mb)) : (cx w h0 mg mb).Glob "_law_names" (.ref 127) := .inl (mg_of (K := hd03.heap_39 w.params) G.inK G.g (by show nsIn (hd03.heap_39 w.params) mainGlobals (Str.ofString "_law_names") = _; k_is))
theorem r_law_read : ∃ oc od fd osl, (cx w h0 mg mb).K.lookup 141 = some ⟨oc, od, .func fd, osl⟩ := ⟨_, _, _, _, by show List.lookup 141 (hd03.heap_39 w.params) = _; k_is⟩
theorem g_law_read (G : Gd (cx w h0 mg mb)) : (cx w h0 mg mb).Glob "_law_read" (.ref 141) := .inl (mg_of (K := hd03.heap_39 w.params) G.inK G.g (by show nsIn (hd03.heap_39 w.params) mainGlobals (Str.ofString "_law_read") = _; k_is))
theorem r_law_told : ∃ oc od fd osl, (cx w h0 mg mb).K.lookup 113 = some ⟨oc, od, .func fd, osl⟩ := ⟨_, _, _, _, by show List.lookup 113 (hd03.heap_39 w.params) = _; k_is⟩
theorem g_law_told (G : Gd (cx w h0 mg mb)) : (cx w h0 mg mb).Glob "_law_told" (.ref 113) := .inl (mg_of (K := hd03.heap_39 w.params) G.inK G.g (by show nsIn (hd03.heap_39 w.params) mainGlobals (Str.ofString "_law_told") = _; k_is))
theorem r_law_washed : ∃ oc od fd osl, (cx w h0 mg mb).K.lookup 120 = some ⟨oc, od, .func fd, osl⟩ := ⟨_, _, _, _, by show List.lookup 120 (hd03.heap_39 w.params) = _; k_is⟩
theorem g_law_washed (G : Gd (cx w h0 mg mb)) : (cx w h0 mg mb).Glob "_law_washed" (.ref 120) := .inl (mg_of (K := hd03.heap_39 w.params) G.inK G.g (by show nsIn (hd03.heap_39 w.params) mainGlobals (Str.ofString "_law_washed") = _; k_is))
theorem r_law_written : ∃ oc od fd osl, (cx w h0 mg mb).K.lookup 134 = some ⟨oc, od, .func fd, osl⟩ := ⟨_, _, _, _, by show List.lookup 134 (hd03.heap_39 w.params) = _; k_is⟩
theorem g_law_written (G : Gd (cx w h0 mg mb)) : (cx w h0 mg mb).Glob "_law_written" (.ref 134) := .inl (mg_of (K := hd03.heap_39 w.params) G.inK G.g (by show nsIn (hd03.heap_39 w.params) mainGlobals (Str.ofString "_law_written") = _; k_is))
theorem g_bytes (G : Gd (cx w h0 mg mb)) (hB : ∀ x : Str, x ≠ "__name__" → mb x = bootBuiltins x) : (cx w h0 mg mb).Glob "bytes" (.type "bytes") := .inr ⟨mg_none_of (K := hd03.heap_39 w.params) G.inK G.g (by show nsIn (hd03.heap_39 w.params) mainGlobals (Str.ofString "bytes") = _; k_is), (hB "bytes" (by decide +kernel)).trans (by rfl)⟩
theorem g_chr (G : Gd (cx w h0 mg mb)) (hB : ∀ x : Str, x ≠ "__name__" → mb x = bootBuiltins x) : (cx w h0 mg mb).Glob "chr" (.builtin "chr") := .inr ⟨mg_none_of (K := hd03.heap_39 w.params) G.inK G.g (by show nsIn (hd03.heap_39 w.params) mainGlobals (Str.ofString "chr") = _; k_is), (hB "chr" (by decide +kernel)).trans (by rfl)⟩
theorem g_len (G : Gd (cx w h0 mg mb)) (hB : ∀ x : Str, x ≠ "__name__" → mb x = bootBuiltins x) : (cx w h0 mg mb).Glob "len" (.builtin "len") := .inr ⟨mg_none_of (K := hd03.heap_39 w.params) G.inK G.g (by show nsIn (hd03.heap_39 w.params) mainGlobals (Str.ofString "len") = _; k_is), (hB "len" (by decide +kernel)).trans (by rfl)⟩
theorem g_max (G : Gd (cx w h0 mg mb)) (hB : ∀ x : Str, x ≠ "__name__" → mb x = bootBuiltins x) : (cx w h0 mg mb).Glob "max" (.builtin "max") := .inr ⟨mg_none_of (K := hd03.heap_39 w.params) G.inK G.g (by show nsIn (hd03.heap_39 w.params) mainGlobals (Str.ofString "max") = _; k_is), (hB "max" (by decide +kernel)).trans (by rfl)⟩
theorem g_ord (G : Gd (cx w h0 mg mb)) (hB : ∀ x : Str, x ≠ "__name__" → mb x = bootBuiltins x) : (cx w h0 mg mb).Glob "ord" (.builtin "ord") := .inr ⟨mg_none_of (K := hd03.heap_39 w.params) G.inK G.g (by show nsIn (hd03.heap_39 w.params) mainGlobals (Str.ofString "ord") = _; k_is), (hB "ord" (by decide +kernel)).trans (by rfl)⟩
theorem g_range (G : Gd (cx w h0 mg mb)) (hB : ∀ x : Str, x ≠ "__name__" → mb x = bootBuiltins x) : (cx w h0 mg mb).Glob "range" (.type "range") := .inr ⟨mg_none_of (K := hd03.heap_39 w.params) G.inK G.g (by show nsIn (hd03.heap_39 w.params) mainGlobals (Str.ofString "range") = _; k_is), (hB "range" (by decide +kernel)).trans (by rfl)⟩
theorem g_zip (G : Gd (cx w h0 mg mb)) (hB : ∀ x : Str, x ≠ "__name__" → mb x = bootBuiltins x) : (cx w h0 mg mb).Glob "zip" (.type "zip") := .inr ⟨mg_none_of (K := hd03.heap_39 w.params) G.inK G.g (by show nsIn (hd03.heap_39 w.params) mainGlobals (Str.ofString "zip") = _; k_is), (hB "zip" (by decide +kernel)).trans (by rfl)⟩
theorem e_new (G : Gd (cx w h0 mg mb)) {p0 pos : Pos} {es : List Expr} {fs : Cm (List AV)} (hx : sx.sc.names.lookup ("InputSource" : Str) = some .globalImplicit) (h1 : ImplEs (cx w h0 mg mb) (n + 1) sx es fs) (hp : es.all plainX = true := by rfl) : ImplE (cx w h0 mg mb) (n + 1) sx (.Call (.Name "InputSource" p0) es [] pos) (bd fs newM) :=
  let ⟨_, _, D⟩ := init; ImplE.new G cls D hx (g_InputSource G) h1 (hp := hp)
noncomputable def B_law_told : Cm AF := thenM (retM (bd (consM (methM (var 0) (pu []) (getF .sys)) (consM (methM (var 0) (pu []) (getF .pub)) (consM (methM (var 0) (pu []) (getF .enc)) (consM (methM (var 0) (pu []) (getF .byt)) (consM (methM (var 0) (pu []) (getF .chr)) (pu [])))))) lstM))
  (pu .next)
noncomputable def F_law_told : List AV → Cm AV := runFn 1 0 B_law_told
theorem k_law_told (G : Gd (cx w h0 mg mb)) (hB : ∀ x : Str, x ≠ "__name__" → mb x = bootBuiltins x) : ImplF (cx w h0 mg mb) (n + 2) 113 F_law_told :=
  fn_ok (names := ["source"]) (others := []) (g := B_law_told) G ⟨⟨_, _, _, by show List.lookup 113 (hd03.heap_39 w.params) = _; k_is⟩, rfl, rfl, rfl, rfl, by show codeIn (hd03.heap_39 w.params) _ _ = true; k_is, rfl, rfl, rfl, fun vals h => match vals, h with | [_], _ => rfl, by decide +kernel, by decide +kernel⟩
  (ImplS.cons (ImplS1.ret (ImplE.list (ImplEs.cons (ImplE.meth G cls m_getSystemId (ImplE.name (i := 0) rfl (by decide +kernel)) (ImplEs.nil) (f_getSystemId G)) (ImplEs.cons (ImplE.meth G cls m_getPublicId (ImplE.name (i := 0) rfl (by decide +kernel)) (ImplEs.nil) (f_getPublicId G)) (ImplEs.cons (ImplE.meth G cls m_getEncoding (ImplE.name (i := 0) rfl (by decide +kernel)) (ImplEs.nil) (f_getEncoding G)) (ImplEs.cons (ImplE.meth G cls m_getByteStream (ImplE.name (i := 0) rfl (by decide +kernel)) (ImplEs.nil) (f_getByteStream G)) (ImplEs.cons (ImplE.meth G cls m_getCharacterStream (ImplE.name (i := 0) rfl (by decide +kernel)) (ImplEs.nil) (f_getCharacterStream G)) (ImplEs.nil))))))))
  (ImplS.nil))
noncomputable def B_law_washed_1 : Cm AF := thenM (asgM (bd (consM (methM (var 0) (consM (var 1) (pu [])) (setF .sys)) (consM (methM (var 0) (consM (var 1) (pu [])) (setF .pub)) (consM (methM (var 0) (consM (var 1) (pu [])) (setF .enc)) (consM (methM (var 0) (consM (var 1) (pu [])) (setF .byt)) (consM (methM (var 0) (consM (var 1) (pu [])) (setF .chr)) (pu [])))))) lstM) (setV 2))
  (thenM (iteM (orM (cmp2 (var 2) (bin2 (bd (consM (pu .none) (pu [])) lstM) (pu (.int 5)) mulM) neM) (orM (cmp2 (bd (consM (var 0) (pu [])) (callM F_law_told)) (bin2 (bd (consM (var 1) (pu [])) lstM) (pu (.int 5)) mulM) neM) (pu false))) (thenM (retM (pu (.bool false)))
  (pu .next)) (pu .next))
  (pu .next))
noncomputable def B_law_washed : Cm AF := thenM (forM' (bd (bd (consM (pu (.str "x")) (consM (pu (.str "")) (consM (pu .none) (pu [])))) lstM) lstIt) sizeL nxL (setV 1) (B_law_washed_1))
  (thenM (retM (pu (.bool true)))
  (pu .next))
noncomputable def F_law_washed : List AV → Cm AV := runFn 1 2 B_law_washed
theorem k_law_washed (G : Gd (cx w h0 mg mb)) (hB : ∀ x : Str, x ≠ "__name__" → mb x = bootBuiltins x) : ImplF (cx w h0 mg mb) (n + 3) 120 F_law_washed :=
  fn_ok (names := ["source"]) (others := ["value", "answers"]) (g := B_law_washed) G ⟨⟨_, _, _, by show List.lookup 120 (hd03.heap_39 w.params) = _; k_is⟩, rfl, rfl, rfl, rfl, by show codeIn (hd03.heap_39 w.params) _ _ = true; k_is, rfl, rfl, rfl, fun vals h => match vals, h with | [_], _ => rfl, by decide +kernel, by decide +kernel⟩
  (ImplS.cons (ImplS1.for (size := sizeL) (gt := goesT) (ImplI.list (ImplE.list (ImplEs.cons (ImplE.cstr) (ImplEs.cons (ImplE.cstr) (ImplEs.cons (ImplE.cnone) (ImplEs.nil)))))) (ImplA.name (i := 1) rfl rfl) (ImplS.cons (ImplS1.assign (ImplE.list (ImplEs.cons (ImplE.meth G cls m_setSystemId (ImplE.name (i := 0) rfl (by decide +kernel)) (ImplEs.cons (ImplE.name (i := 1) rfl (by decide +kernel)) (ImplEs.nil)) (f_setSystemId G)) (ImplEs.cons (ImplE.meth G cls m_setPublicId (ImplE.name (i := 0) rfl (by decide +kernel)) (ImplEs.cons (ImplE.name (i := 1) rfl (by decide +kernel)) (ImplEs.nil)) (f_setPublicId G)) (ImplEs.cons (ImplE.meth G cls m_setEncoding (ImplE.name (i := 0) rfl (by decide +kernel)) (ImplEs.cons (ImplE.name (i := 1) rfl (by decide +kernel)) (ImplEs.nil)) (f_setEncoding G)) (ImplEs.cons (ImplE.meth G cls m_setByteStream (ImplE.name (i := 0) rfl (by decide +kernel)) (ImplEs.cons (ImplE.name (i := 1) rfl (by decide +kernel)) (ImplEs.nil)) (f_setByteStream G)) (ImplEs.cons (ImplE.meth G cls m_setCharacterStream (ImplE.name (i := 0) rfl (by decide +kernel)) (ImplEs.cons (ImplE.name (i := 1) rfl (by decide +kernel)) (ImplEs.nil)) (f_setCharacterStream G)) (ImplEs.nil))))))) (ImplA.name (i := 2) rfl rfl))
  (ImplS.cons (ImplS1.ite (ImplT.bool (ImplTs.or (ImplT.cmp (ImplE.name (i := 2) rfl (by decide +kernel)) (ImplE.bin (ImplE.list (ImplEs.cons (ImplE.cnone) (ImplEs.nil))) (ImplE.cint) mul_ok) ne_ok) (ImplTs.or (ImplT.cmp (ImplE.callFn G rfl (g_law_told G) r_law_told (ImplEs.cons (ImplE.name (i := 0) rfl (by decide +kernel)) (ImplEs.nil)) (k_law_told G hB)) (ImplE.bin (ImplE.list (ImplEs.cons (ImplE.name (i := 1) rfl (by decide +kernel)) (ImplEs.nil))) (ImplE.cint) mul_ok) ne_ok) (ImplTs.orNil)))) (ImplS.cons (ImplS1.ret (ImplE.cbool))
  (ImplS.nil)) (ImplS.nil))
  (ImplS.nil))))
  (ImplS.cons (ImplS1.ret (ImplE.cbool))
  (ImplS.nil)))
noncomputable def B_law_names : Cm AF := thenM (retM (bd (consM (pu .none) (consM (pu (.str "")) (consM (pu (.str "utf-16")) (consM (pu (.str "UTF-16")) (pu []))))) lstM))
  (pu .next)
noncomputable def F_law_names : List AV → Cm AV := runFn 0 0 B_law_names
theorem k_law_names (G : Gd (cx w h0 mg mb)) (hB : ∀ x : Str, x ≠ "__name__" → mb x = bootBuiltins x) : ImplF (cx w h0 mg mb) (n + 1) 127 F_law_names :=
  fn_ok (names := []) (others := []) (g := B_law_names) G ⟨⟨_, _, _, by show List.lookup 127 (hd03.heap_39 w.params) = _; k_is⟩, rfl, rfl, rfl, rfl, by show codeIn (hd03.heap_39 w.params) _ _ = true; k_is, rfl, rfl, rfl, fun vals h => match vals, h with | [], _ => rfl, by decide +kernel, by decide +kernel⟩
  (ImplS.cons (ImplS1.ret (ImplE.list (ImplEs.cons (ImplE.cnone) (ImplEs.cons (ImplE.cstr) (ImplEs.cons (ImplE.cstr) (ImplEs.cons (ImplE.cstr) (ImplEs.nil)))))))
  (ImplS.nil))
noncomputable def B_law_written_1 : Cm AF := thenM (dropM (lmethM (var 2) (consM (bin2 (bd (consM (bin2 (var 1) (var 3) addM) (pu [])) lstM) (bin2 (bd (consM (var 3) (pu [])) lstM) (var 3) mulM) addM) (pu [])) extendM))
  (thenM (iteM (cmp2 (bin2 (var 1) (pu (.int 4)) modM) (pu (.int 0)) eqM) (thenM (asgM (bin2 (bin2 (var 1) (pu (.int 4)) divM) (pu (.int 4)) modM) (setV 3))
  (pu .next)) (pu .next))
  (pu .next))
noncomputable def B_law_written : Cm AF := thenM (asgM (bd (consM (bd (pu []) newLob) (consM (pu (.int 0)) (pu []))) tupM) (swapM 2 (consA (setV 3) (consA (setV 2) (nilA)))))
  (thenM (forM' (bd (var 0) anyIt) sizeA nxA (setV 1) (B_law_written_1))
  (thenM (retM (bd (consM (bd (consM (var 2) (pu [])) bytesM) (consM (bin2 (bd (pu []) (callM F_law_names)) (var 3) item2M) (pu []))) tupM))
  (pu .next)))
noncomputable def F_law_written : List AV → Cm AV := runFn 1 3 B_law_written
theorem k_law_written (G : Gd (cx w h0 mg mb)) (hB : ∀ x : Str, x ≠ "__name__" → mb x = bootBuiltins x) : ImplF (cx w h0 mg mb) (n + 2) 134 F_law_written :=
  fn_ok (names := ["codes"]) (others := ["code", "octets", "n"]) (g := B_law_written) G ⟨⟨_, _, _, by show List.lookup 134 (hd03.heap_39 w.params) = _; k_is⟩, rfl, rfl, rfl, rfl, by show codeIn (hd03.heap_39 w.params) _ _ = true; k_is, rfl, rfl, rfl, fun vals h => match vals, h with | [_], _ => rfl, by decide +kernel, by decide +kernel⟩
  (ImplS.cons (ImplS1.swapped (names := ["octets", "n"]) (ImplE.tuple (ImplEs.cons (ImplE.listMut (ImplEs.nil)) (ImplEs.cons (ImplE.cint) (ImplEs.nil)))) rfl (ImplN.cons (i := 3) rfl rfl (ImplN.cons (i := 2) rfl rfl (ImplN.nil))))
  (ImplS.cons (ImplS1.for (size := sizeA) (gt := goesT) (ImplI.any (ImplE.name (i := 0) rfl (by decide +kernel))) (ImplA.name (i := 1) rfl rfl) (ImplS.cons (ImplS1.expr (ImplE.lmeth PySem.F.slot_list_extend rfl (ImplE.name (i := 2) rfl (by decide +kernel)) (ImplEs.cons (ImplE.bin (ImplE.list (ImplEs.cons (ImplE.bin (ImplE.name (i := 1) rfl (by decide +kernel)) (ImplE.name (i := 3) rfl (by decide +kernel)) add_ok) (ImplEs.nil))) (ImplE.bin (ImplE.list (ImplEs.cons (ImplE.name (i := 3) rfl (by decide +kernel)) (ImplEs.nil))) (ImplE.name (i := 3) rfl (by decide +kernel)) mul_ok) add_ok) (ImplEs.nil)) extend_ok))
  (ImplS.cons (ImplS1.ite (ImplT.cmp (ImplE.bin (ImplE.name (i := 1) rfl (by decide +kernel)) (ImplE.cint) mod_ok) (ImplE.cint) eq_ok) (ImplS.cons (ImplS1.assign (ImplE.bin (ImplE.bin (ImplE.name (i := 1) rfl (by decide +kernel)) (ImplE.cint) div_ok) (ImplE.cint) mod_ok) (ImplA.name (i := 3) rfl rfl))
  (ImplS.nil)) (ImplS.nil))
  (ImplS.nil))))
  (ImplS.cons (ImplS1.ret (ImplE.tuple (ImplEs.cons (ImplE.callT G rfl (g_bytes G hB) (ImplEs.cons (ImplE.name (i := 2) rfl (by decide +kernel)) (ImplEs.nil)) bytes_ok) (ImplEs.cons (ImplE.item2 (ImplE.callFn G rfl (g_law_names G) r_law_names (ImplEs.nil) (k_law_names G hB)) (ImplE.name (i := 3) rfl (by decide +kernel))) (ImplEs.nil)))))
  (ImplS.nil))))
noncomputable def B_law_read : Cm AF := thenM (asgM (bd (consM (methM (var 0) (pu []) (getF .byt)) (consM (methM (var 0) (pu []) (getF .pub)) (pu []))) tupM) (swapM 2 (consA (setV 5) (consA (setV 4) (nilA)))))
  (thenM (iteM (cmp2 (var 5) (bd (consM (var 4) (pu [])) lenBM) eqM) (thenM (retM (bd (pu []) lstM))
  (pu .next)) (pu .next))
  (thenM (asgM (lmethM (bd (pu []) (callM F_law_names)) (consM (methM (var 0) (pu []) (getF .enc)) (pu [])) indexM) (setV 1))
  (thenM (asgM (bd (consM (bin2 (bin2 (var 4) (var 5) item2M) (var 1) subM) (pu [])) chrM) (setV 2))
  (thenM (asgM (bd (consM (methM (var 0) (consM (var 2) (pu [])) (setF .sys)) (consM (methM (var 0) (consM (bin2 (bin2 (var 5) (var 1) addM) (pu (.int 1)) addM) (pu [])) (setF .pub)) (pu []))) newLob) (setV 3))
  (thenM (dropM (lmethM (var 3) (consM (methM (var 0) (consM (bin2 (methM (var 0) (pu []) (getF .chr)) (var 2) addM) (pu [])) (setF .chr)) (pu [])) appendM))
  (thenM (iteM (cmp2 (bin2 (bd (consM (var 2) (pu [])) ordM) (pu (.int 4)) modM) (pu (.int 0)) eqM) (thenM (dropM (lmethM (var 3) (consM (methM (var 0) (consM (bin2 (bd (pu []) (callM F_law_names)) (bin2 (bin2 (bd (consM (var 2) (pu [])) ordM) (pu (.int 4)) divM) (pu (.int 4)) modM) item2M) (pu [])) (setF .enc)) (pu [])) appendM))
  (pu .next)) (pu .next))
  (thenM (retM (var 3))
  (pu .next))))))))
noncomputable def F_law_read : List AV → Cm AV := runFn 1 5 B_law_read
theorem k_law_read (G : Gd (cx w h0 mg mb)) (hB : ∀ x : Str, x ≠ "__name__" → mb x = bootBuiltins x) : ImplF (cx w h0 mg mb) (n + 2) 141 F_law_read :=
  fn_ok (names := ["source"]) (others := ["n", "sign", "answers", "octets", "place"]) (g := B_law_read) G ⟨⟨_, _, _, by show List.lookup 141 (hd03.heap_39 w.params) = _; k_is⟩, rfl, rfl, rfl, rfl, by show codeIn (hd03.heap_39 w.params) _ _ = true; k_is, rfl, rfl, rfl, fun vals h => match vals, h with | [_], _ => rfl, by decide +kernel, by decide +kernel⟩
  (ImplS.cons (ImplS1.swapped (names := ["octets", "place"]) (ImplE.tuple (ImplEs.cons (ImplE.meth G cls m_getByteStream (ImplE.name (i := 0) rfl (by decide +kernel)) (ImplEs.nil) (f_getByteStream G)) (ImplEs.cons (ImplE.meth G cls m_getPublicId (ImplE.name (i := 0) rfl (by decide +kernel)) (ImplEs.nil) (f_getPublicId G)) (ImplEs.nil)))) rfl (ImplN.cons (i := 5) rfl rfl (ImplN.cons (i := 4) rfl rfl (ImplN.nil))))
  (ImplS.cons (ImplS1.ite (ImplT.cmp (ImplE.name (i := 5) rfl (by decide +kernel)) (ImplE.callB G rfl (g_len G hB) (ImplEs.cons (ImplE.name (i := 4) rfl (by decide +kernel)) (ImplEs.nil)) lenB_ok) eq_ok) (ImplS.cons (ImplS1.ret (ImplE.list (ImplEs.nil)))
  (ImplS.nil)) (ImplS.nil))
  (ImplS.cons (ImplS1.assign (ImplE.lmeth PySem.F.slot_list_index rfl (ImplE.callFn G rfl (g_law_names G) r_law_names (ImplEs.nil) (k_law_names G hB)) (ImplEs.cons (ImplE.meth G cls m_getEncoding (ImplE.name (i := 0) rfl (by decide +kernel)) (ImplEs.nil) (f_getEncoding G)) (ImplEs.nil)) index_ok) (ImplA.name (i := 1) rfl rfl))
  (ImplS.cons (ImplS1.assign (ImplE.callB G rfl (g_chr G hB) (ImplEs.cons (ImplE.bin (ImplE.item2 (ImplE.name (i := 4) rfl (by decide +kernel)) (ImplE.name (i := 5) rfl (by decide +kernel))) (ImplE.name (i := 1) rfl (by decide +kernel)) sub_ok) (ImplEs.nil)) chr_ok) (ImplA.name (i := 2) rfl rfl))
  (ImplS.cons (ImplS1.assign (ImplE.listMut (ImplEs.cons (ImplE.meth G cls m_setSystemId (ImplE.name (i := 0) rfl (by decide +kernel)) (ImplEs.cons (ImplE.name (i := 2) rfl (by decide +kernel)) (ImplEs.nil)) (f_setSystemId G)) (ImplEs.cons (ImplE.meth G cls m_setPublicId (ImplE.name (i := 0) rfl (by decide +kernel)) (ImplEs.cons (ImplE.bin (ImplE.bin (ImplE.name (i := 5) rfl (by decide +kernel)) (ImplE.name (i := 1) rfl (by decide +kernel)) add_ok) (ImplE.cint) add_ok) (ImplEs.nil)) (f_setPublicId G)) (ImplEs.nil)))) (ImplA.name (i := 3) rfl rfl))
  (ImplS.cons (ImplS1.expr (ImplE.lmeth PySem.F.slot_list_append rfl (ImplE.name (i := 3) rfl (by decide +kernel)) (ImplEs.cons (ImplE.meth G cls m_setCharacterStream (ImplE.name (i := 0) rfl (by decide +kernel)) (ImplEs.cons (ImplE.bin (ImplE.meth G cls m_getCharacterStream (ImplE.name (i := 0) rfl (by decide +kernel)) (ImplEs.nil) (f_getCharacterStream G)) (ImplE.name (i := 2) rfl (by decide +kernel)) add_ok) (ImplEs.nil)) (f_setCharacterStream G)) (ImplEs.nil)) append_ok))
  (ImplS.cons (ImplS1.ite (ImplT.cmp (ImplE.bin (ImplE.callB G rfl (g_ord G hB) (ImplEs.cons (ImplE.name (i := 2) rfl (by decide +kernel)) (ImplEs.nil)) ord_ok) (ImplE.cint) mod_ok) (ImplE.cint) eq_ok) (ImplS.cons (ImplS1.expr (ImplE.lmeth PySem.F.slot_list_append rfl (ImplE.name (i := 3) rfl (by decide +kernel)) (ImplEs.cons (ImplE.meth G cls m_setEncoding (ImplE.name (i := 0) rfl (by decide +kernel)) (ImplEs.cons (ImplE.item2 (ImplE.callFn G rfl (g_law_names G) r_law_names (ImplEs.nil) (k_law_names G hB)) (ImplE.bin (ImplE.bin (ImplE.callB G rfl (g_ord G hB) (ImplEs.cons (ImplE.name (i := 2) rfl (by decide +kernel)) (ImplEs.nil)) ord_ok) (ImplE.cint) div_ok) (ImplE.cint) mod_ok)) (ImplEs.nil)) (f_setEncoding G)) (ImplEs.nil)) append_ok))
  (ImplS.nil)) (ImplS.nil))
  (ImplS.cons (ImplS1.ret (ImplE.name (i := 3) rfl (by decide +kernel)))
  (ImplS.nil)))))))))
noncomputable def S1_8 : Cm AF := retM (boolV (cmp2 (var 4) (bin2 (bd (consM (pu .none) (pu [])) lstM) (bd (consM (var 4) (pu [])) lenBM) mulM) eqM))
noncomputable def S3_1 : Cm AF := retM (pu (.bool false))
noncomputable def B_law_1 : Cm AF := thenM (S3_1)
  (pu .next)
noncomputable def S2_2 : Cm AF := iteM (cmp2 (bd (consM (var 6) (pu [])) (callM F_law_told)) (bd (consM (bin2 (var 10) (negM (pu (.int 1))) item2M) (consM (bd (consM (bin2 (var 8) (pu (.int 0)) item2M) (pu [])) lenBM) (consM (bin2 (var 8) (pu (.int 1)) item2M) (consM (bin2 (var 8) (pu (.int 0)) item2M) (consM (var 10) (pu [])))))) lstM) neM) (B_law_1) (pu .next)
noncomputable def C_law_1 : Cm AV := compM 1 [] (bd (var 9) anyIt) sizeA nxA (setV 0) (pu true) (bd (consM (var 0) (pu [])) chrM)
noncomputable def S2_1 : Cm AF := asgM (joinM (pu (.str "")) (consM (frzE (C_law_1)) (pu []))) (setV 10)
noncomputable def B_law_2 : Cm AF := thenM (S2_1)
  (thenM (S2_2)
  (pu .next))
noncomputable def S1_7 : Cm AF := forM' (bd (consM (bin2 (var 3) (var 3) addM) (consM (bin2 (var 1) (var 1) addM) (consM (bin2 (var 2) (var 2) addM) (pu [])))) zipIt) sizeZ nxZ (unpackM 3 (consA (setV 6) (consA (setV 9) (consA (setV 8) (nilA))))) (B_law_2)
noncomputable def C_law_2 : Cm AV := compM 1 [] (bd (var 1) anyIt) sizeA nxA (setV 0) (pu true) (bd (consM (var 0) (pu [])) lenBM)
noncomputable def S5_1 : Cm AF := dropM (lmethM (var 4) (consM (bd (consM (var 6) (pu [])) (callM F_law_read)) (pu [])) extendM)
noncomputable def B_law_3 : Cm AF := thenM (S5_1)
  (pu .next)
noncomputable def S4_1 : Cm AF := forM' (bd (var 3) anyIt) sizeA nxA (setV 6) (B_law_3)
noncomputable def B_law_4 : Cm AF := thenM (S4_1)
  (pu .next)
noncomputable def S1_6 : Cm AF := forM' (bd (consM (bin2 (pu (.int 1)) (bd (consM (frzE (C_law_2)) (pu [])) maxM) addM) (pu [])) rangeM) sizeL nxL (setV 5) (B_law_4)
noncomputable def S6_2 : Cm AF := dropM (lmethM (var 4) (consM (bd (consM (methM (var 6) (consM (bin2 (var 8) (pu (.int 0)) item2M) (pu [])) (setF .byt)) (consM (methM (var 6) (consM (pu (.str "")) (pu [])) (setF .chr)) (consM (methM (var 6) (consM (pu (.int 0)) (pu [])) (setF .pub)) (pu [])))) lstM) (pu [])) extendM)
noncomputable def S7_1 : Cm AF := retM (pu (.bool false))
noncomputable def B_law_5 : Cm AF := thenM (S7_1)
  (pu .next)
noncomputable def S6_1 : Cm AF := iteM (orM (cmp2 (bd (consM (var 6) (pu [])) (callM F_law_told)) (bd (consM (var 7) (consM (pu .none) (consM (pu .none) (consM (pu .none) (consM (pu .none) (pu [])))))) lstM) neM) (orM (notM (bd (bd (consM (var 6) (pu [])) (callM F_law_washed)) truthM)) (pu false))) (B_law_5) (pu .next)
noncomputable def B_law_6 : Cm AF := thenM (S6_1)
  (thenM (S6_2)
  (pu .next))
noncomputable def S1_5 : Cm AF := forM' (bd (consM (var 3) (consM (bd (consM (pu (.str "")) (consM (pu .none) (consM (pu (.str "e")) (pu [])))) lstM) (consM (var 2) (pu [])))) zipIt) sizeZ nxZ (unpackM 3 (consA (setV 6) (consA (setV 7) (consA (setV 8) (nilA))))) (B_law_6)
noncomputable def S1_4 : Cm AF := asgM (bd (pu []) newLob) (setV 4)
noncomputable def S1_3 : Cm AF := asgM (bd (consM (bd (consM (pu (.str "")) (pu [])) newM) (consM (bd (pu []) newM) (consM (bd (consM (pu (.str "e")) (pu [])) newM) (pu [])))) lstM) (setV 3)
noncomputable def C_law_3 : Cm AV := compM 1 [] (bd (var 1) anyIt) sizeA nxA (setV 0) (pu true) (bd (consM (var 0) (pu [])) (callM F_law_written))
noncomputable def S1_2 : Cm AF := frzS 2 (asgM (C_law_3) (setV 2))
noncomputable def C_law_4 : Cm AV := compM 1 [0] (bd (bin2 (bd (consM (pu (.int 12)) (consM (pu (.int 0)) (consM (pu (.int 3)) (consM (pu (.int 37)) (consM (pu (.int 28)) (consM (pu (.int 25)) (consM (pu (.int 17)) (pu [])))))))) lstM) (var 1) addM) lstIt) sizeL nxL (setV 0) (cmp2 (bin2 (var 0) (pu (.int 3)) modM) (var 1) eqM) (bin2 (bin2 (var 0) (pu (.int 3)) divM) (pu (.int 128)) modM)
noncomputable def C_law_5 : Cm AV := compM 1 [0] (bd (consM (pu (.int 3)) (pu [])) rangeM) sizeL nxL (setV 0) (pu true) (frzE (C_law_4))
noncomputable def S1_1 : Cm AF := frzS 1 (asgM (C_law_5) (setV 1))
noncomputable def B_law : Cm AF := thenM (S1_1)
  (thenM (S1_2)
  (thenM (S1_3)
  (thenM (S1_4)
  (thenM (S1_5)
  (thenM (S1_6)
  (thenM (S1_7)
  (thenM (S1_8)
  (pu .next))))))))
noncomputable def V_law : List Str := ["script", "rows", "written", "sources", "answers", "turn", "source", "begun", "pair", "row", "text"]
/- the law: level 3 -/
end

set_option linter.unusedSimpArgs false
noncomputable def AV.isU : AV → Bool
  | .unb => true
  | _ => false
theorem var_eq (i : Nat) (st : AS) : var i st = match st.loc[i]? with | some v => if v.isU = true then .none else some (v, st) | .none => .none := by
  unfold var
  cases st.loc[i]? with
  | none => rfl
  | some v => cases v <;> rfl
theorem u_none : AV.none.isU = false := rfl
theorem u_bool (b : Bool) : (AV.bool b).isU = false := rfl
theorem u_int (i : Int) : (AV.int i).isU = false := rfl
theorem u_str (i : Str) : (AV.str i).isU = false := rfl
theorem u_bytes (i : Array UInt8) : (AV.bytes i).isU = false := rfl
theorem u_ins (i : Nat) : (AV.ins i).isU = false := rfl
theorem u_lob (i : Nat) : (AV.lob i).isU = false := rfl
theorem u_lst (i : List AV) : (AV.lst i).isU = false := rfl
theorem u_lsb (i : List AV) : (AV.lsb i).isU = false := rfl
theorem u_tup (i : List AV) : (AV.tup i).isU = false := rfl
noncomputable def AV.pl : AV → Bool
  | .none => true
  | .int _ => true
  | .str _ => true
  | .bytes _ => true
  | _ => false
theorem pl_eq {v : AV} (h : v.pl = true) (st : AS) (d : Nat) : eqF st (d + 1) v v = some true := by cases v <;> first | simp [eqF]; done | cases h
theorem pl_frz {v : AV} (h : v.pl = true) (seg : List (Nat × List AV)) : frz0 seg v = v := by cases v <;> first | rfl | cases h
theorem then_next {f g : Cm AF} {st st1 : AS} (h : f st = some (.next, st1)) : thenM f g st = g st1 := by rw [thenM, bd, h]
theorem then_ret {f g : Cm AF} {st st1 : AS} {v : AV} (h : f st = some (.ret v, st1)) : thenM f g st = some (.ret v, st1) := by rw [thenM, bd, h]; rfl
theorem bd_is {α β : Type} {f : Cm α} {g : α → Cm β} {st st1 : AS} {a : α} (h : f st = some (a, st1)) : bd f g st = g a st1 := by rw [bd, h]
theorem eqAll_nones (st : AS) : ∀ (xs : List AV), (∀ x ∈ xs, x = .none) → eqAll (eqF st 7) xs (List.replicate xs.length .none) = some true
  | [], _ => rfl
  | x :: xs, h => by
    have hx : x = .none := h x List.mem_cons_self
    have ih := eqAll_nones st xs (fun y hy => h y (List.mem_cons_of_mem _ hy))
    subst hx
    have e : eqF st 7 .none .none = some true := rfl
    rw [List.length_cons, List.replicate_succ]
    simp [eqAll, e, ih]
theorem items_lst (xs : List AV) (st : AS) : itemsM (.lst xs) st = some (xs, st) := rfl
theorem compG_next {σ : Type} {nx : σ → AS → Option (Option (AV × σ))} {tgt : AV → Cm Unit} {ft : Cm Bool} {fe : Cm AV} {K m : Nat} {i i' : σ} {x : AV} {st : AS} (h : nx i st = some (some (x, i'))) : compG nx tgt ft fe K (m + 1) i st = (bd (tgt x) fun _ => bd ft fun ok => if ok then (bd fe fun v => bd (appendM (.lob K) [v]) fun _ => compG nx tgt ft fe K m i') else compG nx tgt ft fe K m i') st := by
  rw [compG]; simp only [h]
theorem compG_L {cs : List AV} {ft : Cm Bool} {fe : Cm AV} {ins : List Ins} {L : LH} {N : Nat} (P : AV → Bool) (V : AV → AV) : ∀ (xs : List AV) (u : AV) (ys : List AV),
    (∀ x ∈ xs, ∀ ys, ft ⟨x :: cs, ins, [(N, ys)] :: L, N + 1⟩ = some (P x, ⟨x :: cs, ins, [(N, ys)] :: L, N + 1⟩)) →
    (∀ x ∈ xs, P x = true → ∀ ys, fe ⟨x :: cs, ins, [(N, ys)] :: L, N + 1⟩ = some (V x, ⟨x :: cs, ins, [(N, ys)] :: L, N + 1⟩)) → ys.length + xs.length ≤ 100000 →
    ∃ u', compG nxL (setV 0) ft fe N (xs.length + 1) xs ⟨u :: cs, ins, [(N, ys)] :: L, N + 1⟩ = some ((), ⟨u' :: cs, ins, [(N, ys ++ (xs.filter P).map V)] :: L, N + 1⟩)
  | [], u, ys, _, _, _ => ⟨u, by simp [compG, nxL]⟩
  | x :: xs, u, ys, h1, h2, hl => by
    have a1 := h1 x List.mem_cons_self ys
    rw [List.length_cons] at hl
    by_cases q : P x = true
    · obtain ⟨u', e⟩ := compG_L P V xs x (ys ++ [V x]) (fun y hy => h1 y (List.mem_cons_of_mem _ hy)) (fun y hy => h2 y (List.mem_cons_of_mem _ hy)) (by simp; omega)
      have a2 := h2 x List.mem_cons_self q ys
      refine ⟨u', ?_⟩
      rw [List.length_cons, compG_next (i := x :: xs) (i' := xs) (x := x) rfl]
      rw [bd_is (st1 := ⟨x :: cs, ins, [(N, ys)] :: L, N + 1⟩) (a := ()) rfl, bd_is a1, if_pos q, bd_is a2, bd_is (st1 := ⟨x :: cs, ins, [(N, ys ++ [V x])] :: L, N + 1⟩) (a := .none) (by simp [appendM, getL1, lookL, putL1, putSeg, show ys.length ≤ 100000 by omega]), e]
      simp [q]
    · obtain ⟨u', e⟩ := compG_L P V xs x ys (fun y hy => h1 y (List.mem_cons_of_mem _ hy)) (fun y hy => h2 y (List.mem_cons_of_mem _ hy)) (by omega)
      refine ⟨u', ?_⟩
      rw [List.length_cons, compG_next (i := x :: xs) (i' := xs) (x := x) rfl]
      rw [bd_is (st1 := ⟨x :: cs, ins, [(N, ys)] :: L, N + 1⟩) (a := ()) rfl, bd_is a1, if_neg q, e]
      simp [q]
theorem compM_L {caps : List Nat} {f : Cm (List AV)} {ft : Cm Bool} {fe : Cm AV} {st : AS} {xs : List AV} (P : AV → Bool) (V : AV → AV) (h0 : f { st with lst := [] :: st.lst } = some (xs, { st with lst := [] :: st.lst })) (hl : xs.length ≤ 100000)
    (h1 : ∀ x ∈ xs, ∀ ys, ft ⟨x :: capsL caps st.loc, st.ins, [(st.nl, ys)] :: st.lst, st.nl + 1⟩ = some (P x, ⟨x :: capsL caps st.loc, st.ins, [(st.nl, ys)] :: st.lst, st.nl + 1⟩))
    (h2 : ∀ x ∈ xs, P x = true → ∀ ys, fe ⟨x :: capsL caps st.loc, st.ins, [(st.nl, ys)] :: st.lst, st.nl + 1⟩ = some (V x, ⟨x :: capsL caps st.loc, st.ins, [(st.nl, ys)] :: st.lst, st.nl + 1⟩)) :
    compM 1 caps f sizeL nxL (setV 0) ft fe { st with lst := [] :: st.lst } = some (.lob st.nl, { st with lst := [(st.nl, (xs.filter P).map V)] :: st.lst, nl := st.nl + 1 }) := by
  obtain ⟨u', e⟩ := compG_L P V xs .unb [] h1 h2 (by simpa using hl)
  rw [compM, bd_is h0]
  show (match compG nxL (setV 0) ft fe st.nl (xs.length + 1) xs ⟨.unb :: capsL caps st.loc, st.ins, [(st.nl, [])] :: st.lst, st.nl + 1⟩ with | some (_, st') => some (AV.lob st.nl, { st' with loc := st.loc }) | .none => .none) = _
  rw [e]; simp
theorem frzE_is {f : Cm AV} {st st1 : AS} {N : Nat} {ys : List AV} (h : f { st with lst := [] :: st.lst } = some (.lob N, { st1 with lst := [(N, ys)] :: st.lst })) : frzE f st = some (.lst ys, { st1 with lst := st.lst }) := by
  unfold frzE; rw [h]; simp [frzV, frz0, lookL]
theorem frz_comp {caps : List Nat} {f : Cm (List AV)} {ft : Cm Bool} {fe : Cm AV} {st : AS} {xs : List AV} (P : AV → Bool) (V : AV → AV) (h0 : f { st with lst := [] :: st.lst } = some (xs, { st with lst := [] :: st.lst })) (hl : xs.length ≤ 100000)
    (h1 : ∀ x ∈ xs, ∀ ys, ft ⟨x :: capsL caps st.loc, st.ins, [(st.nl, ys)] :: st.lst, st.nl + 1⟩ = some (P x, ⟨x :: capsL caps st.loc, st.ins, [(st.nl, ys)] :: st.lst, st.nl + 1⟩))
    (h2 : ∀ x ∈ xs, P x = true → ∀ ys, fe ⟨x :: capsL caps st.loc, st.ins, [(st.nl, ys)] :: st.lst, st.nl + 1⟩ = some (V x, ⟨x :: capsL caps st.loc, st.ins, [(st.nl, ys)] :: st.lst, st.nl + 1⟩)) :
    frzE (compM 1 caps f sizeL nxL (setV 0) ft fe) st = some (.lst ((xs.filter P).map V), { st with nl := st.nl + 1 }) :=
  frzE_is (st := st) (st1 := { st with nl := st.nl + 1 }) (compM_L P V h0 hl h1 h2)
theorem compG_A {cs : List AV} {ft : Cm Bool} {fe : Cm AV} {ins : List Ins} {L : LH} {N : Nat} {X : AV} {zs : List AV} (P : AV → Bool) (V : AV → AV)
    (hX : ∀ loc ys, itemsM X ⟨loc, ins, [(N, ys)] :: L, N + 1⟩ = some (zs, ⟨loc, ins, [(N, ys)] :: L, N + 1⟩))
    (h1 : ∀ x ∈ zs, ∀ ys, ft ⟨x :: cs, ins, [(N, ys)] :: L, N + 1⟩ = some (P x, ⟨x :: cs, ins, [(N, ys)] :: L, N + 1⟩))
    (h2 : ∀ x ∈ zs, P x = true → ∀ ys, fe ⟨x :: cs, ins, [(N, ys)] :: L, N + 1⟩ = some (V x, ⟨x :: cs, ins, [(N, ys)] :: L, N + 1⟩)) (hz : zs.length ≤ 50000) : ∀ (d i : Nat) (u : AV) (ys : List AV), i + d = zs.length → ys.length ≤ i →
    ∃ u', compG nxA (setV 0) ft fe N (d + 1) (X, i) ⟨u :: cs, ins, [(N, ys)] :: L, N + 1⟩ = some ((), ⟨u' :: cs, ins, [(N, ys ++ ((zs.drop i).filter P).map V)] :: L, N + 1⟩)
  | 0, i, u, ys, h, hy => ⟨u, by
    have hn : zs[i]? = .none := by rw [List.getElem?_eq_none_iff]; omega
    have hd : zs.drop i = [] := List.drop_eq_nil_of_le (by omega)
    unfold compG
    simp [nxA, hX, hn, hd]⟩
  | d + 1, i, u, ys, h, hy => by
    have hi : i < zs.length := by omega
    have hn : zs[i]? = some zs[i] := List.getElem?_eq_getElem hi
    have hm : zs[i] ∈ zs := List.getElem_mem hi
    have a1 := h1 _ hm ys
    have hd : zs.drop i = zs[i] :: zs.drop (i + 1) := List.drop_eq_getElem_cons hi
    by_cases q : P zs[i] = true
    · obtain ⟨u', e⟩ := compG_A P V hX h1 h2 hz d (i + 1) zs[i] (ys ++ [V zs[i]]) (by omega) (by simp; omega)
      have a2 := h2 _ hm q ys
      refine ⟨u', ?_⟩
      rw [compG_next (i' := (X, i + 1)) (x := zs[i]) (by simp only [nxA, hX, hn])]
      rw [bd_is (st1 := ⟨zs[i] :: cs, ins, [(N, ys)] :: L, N + 1⟩) (a := ()) rfl, bd_is a1, if_pos q, bd_is a2, bd_is (st1 := ⟨zs[i] :: cs, ins, [(N, ys ++ [V zs[i]])] :: L, N + 1⟩) (a := .none) (by simp [appendM, getL1, lookL, putL1, putSeg, show ys.length ≤ 100000 by omega]), e, hd, List.filter_cons_of_pos q, List.map_cons, List.append_assoc, List.singleton_append]
    · obtain ⟨u', e⟩ := compG_A P V hX h1 h2 hz d (i + 1) zs[i] ys (by omega) (by omega)
      refine ⟨u', ?_⟩
      rw [compG_next (i' := (X, i + 1)) (x := zs[i]) (by simp only [nxA, hX, hn])]
      rw [bd_is (st1 := ⟨zs[i] :: cs, ins, [(N, ys)] :: L, N + 1⟩) (a := ()) rfl, bd_is a1, if_neg q, e, hd, List.filter_cons_of_neg q]
theorem compM_A {caps : List Nat} {f : Cm AV} {ft : Cm Bool} {fe : Cm AV} {st : AS} {X : AV} {zs : List AV} (P : AV → Bool) (V : AV → AV) (h0 : f { st with lst := [] :: st.lst } = some (X, { st with lst := [] :: st.lst })) (hz : zs.length ≤ 50000)
    (h00 : ∀ loc nl, itemsM X ⟨loc, st.ins, [] :: st.lst, nl⟩ = some (zs, ⟨loc, st.ins, [] :: st.lst, nl⟩))
    (hX : ∀ loc ys, itemsM X ⟨loc, st.ins, [(st.nl, ys)] :: st.lst, st.nl + 1⟩ = some (zs, ⟨loc, st.ins, [(st.nl, ys)] :: st.lst, st.nl + 1⟩))
    (h1 : ∀ x ∈ zs, ∀ ys, ft ⟨x :: capsL caps st.loc, st.ins, [(st.nl, ys)] :: st.lst, st.nl + 1⟩ = some (P x, ⟨x :: capsL caps st.loc, st.ins, [(st.nl, ys)] :: st.lst, st.nl + 1⟩))
    (h2 : ∀ x ∈ zs, P x = true → ∀ ys, fe ⟨x :: capsL caps st.loc, st.ins, [(st.nl, ys)] :: st.lst, st.nl + 1⟩ = some (V x, ⟨x :: capsL caps st.loc, st.ins, [(st.nl, ys)] :: st.lst, st.nl + 1⟩)) :
    compM 1 caps (bd f anyIt) sizeA nxA (setV 0) ft fe { st with lst := [] :: st.lst } = some (.lob st.nl, { st with lst := [(st.nl, (zs.filter P).map V)] :: st.lst, nl := st.nl + 1 }) := by
  obtain ⟨u', e⟩ := compG_A P V hX h1 h2 hz zs.length 0 .unb [] (by omega) (by simp)
  have h3 : bd f anyIt { st with lst := [] :: st.lst } = some ((X, 0), { st with lst := [] :: st.lst }) := by
    rw [bd_is h0]; unfold anyIt; rw [h00]
  rw [compM, bd_is h3]
  show (match compG nxA (setV 0) ft fe st.nl (sizeA (X, 0) { st with lst := [] :: st.lst }) (X, 0) ⟨.unb :: capsL caps st.loc, st.ins, [(st.nl, [])] :: st.lst, st.nl + 1⟩ with | some (_, st') => some (AV.lob st.nl, { st' with loc := st.loc }) | .none => .none) = _
  have h4 : sizeA (X, 0) { st with lst := [] :: st.lst } = zs.length + 1 := by unfold sizeA; rw [h00]
  rw [h4, e]; simp
theorem forG_next {σ : Type} {nx : σ → AS → Option (Option (AV × σ))} {tgt : AV → Cm Unit} {body : Cm AF} {m : Nat} {i i' : σ} {x : AV} {st : AS} (h : nx i st = some (some (x, i'))) : forG nx tgt body (m + 1) i st = (bd (tgt x) fun _ => thenM body (forG nx tgt body m i')) st := by
  rw [forG]; simp only [h]
theorem forL_cons {tgt : AV → Cm Unit} {body : Cm AF} {x : AV} {xs : List AV} {k : Nat} {st st1 st2 : AS} (h1 : tgt x st = some ((), st1)) (h2 : body st1 = some (.next, st2)) : forG nxL tgt body (k + 1) (x :: xs) st = forG nxL tgt body k xs st2 := by
  rw [forG_next (i' := xs) (x := x) rfl, bd_is h1, then_next h2]
theorem forL_is {f : Cm (List AV)} {tgt : AV → Cm Unit} {body : Cm AF} {xs : List AV} {st st1 : AS} {R : Option (AF × AS)} (h1 : f st = some (xs, st1)) (h2 : forG nxL tgt body (xs.length + 1) xs st1 = R) : forM' f sizeL nxL tgt body st = R := by
  rw [forM', bd_is h1]; exact h2
theorem forA_next {tgt : AV → Cm Unit} {body : Cm AF} {X x : AV} {xs : List AV} {i k : Nat} {st s' st1 st2 : AS} (h0 : itemsM X st = some (xs, s')) (hx : xs[i]? = some x) (h1 : tgt x st = some ((), st1)) (h2 : body st1 = some (.next, st2)) : forG nxA tgt body (k + 1) (X, i) st = forG nxA tgt body k (X, i + 1) st2 := by
  rw [forG_next (i' := (X, i + 1)) (x := x) (by simp only [nxA, h0, hx]), bd_is h1, then_next h2]
theorem forA_end {tgt : AV → Cm Unit} {body : Cm AF} {X : AV} {xs : List AV} {i k : Nat} {st s' : AS} (h0 : itemsM X st = some (xs, s')) (hx : xs.length ≤ i) : forG nxA tgt body (k + 1) (X, i) st = some (.next, st) := by
  have hn : xs[i]? = .none := by rw [List.getElem?_eq_none_iff]; exact hx
  rw [forG]; simp only [nxA, h0, hn]
theorem forA_is {f : Cm AV} {tgt : AV → Cm Unit} {body : Cm AF} {X : AV} {xs : List AV} {st st1 s' : AS} {R : Option (AF × AS)} (h1 : f st = some (X, st1)) (h0 : itemsM X st1 = some (xs, s')) (h2 : forG nxA tgt body (xs.length + 1) (X, 0) st1 = R) : forM' (bd f anyIt) sizeA nxA tgt body st = R := by
  have e : bd f anyIt st = some ((X, 0), st1) := by rw [bd_is h1]; simp only [anyIt, h0]
  rw [forM', bd_is e]
  simp only [sizeA, h0]; exact h2
theorem call_ret {k m : Nat} {g : Cm AF} {xs : List AV} {loc l' : List AV} {ins ins' : List Ins} {L L' : LH} {N N' : Nat} {v : AV} {seg : List (Nat × List AV)} (hx : xs.length = k) (h : g ⟨xs ++ List.replicate m .unb, ins, [] :: L, N⟩ = some (.ret v, ⟨l', ins', seg :: L', N'⟩)) :
    callM (runFn k m g) xs ⟨loc, ins, L, N⟩ = some (frzV seg v, ⟨loc, ins', L', N'⟩) := by
  simp only [callM, runFn, runFnG, hx, if_true, h, endFn]
theorem forZ_next {tgt : AV → Cm Unit} {body : Cm AF} {ls ts : List (List AV)} {hs : List AV} {k : Nat} {st st1 st2 : AS} (h : heads ls = some (hs, ts)) (h1 : tgt (.tup hs) st = some ((), st1)) (h2 : body st1 = some (.next, st2)) : forG nxZ tgt body (k + 1) ls st = forG nxZ tgt body k ts st2 := by
  rw [forG_next (i' := ts) (x := .tup hs) (by simp only [nxZ, h]), bd_is h1, then_next h2]
theorem forZ_end {tgt : AV → Cm Unit} {body : Cm AF} {ls : List (List AV)} {k : Nat} {st : AS} (h : heads ls = .none) : forG nxZ tgt body (k + 1) ls st = some (.next, st) := by
  rw [forG]; simp only [nxZ, h]/-! the plain law -/
noncomputable def cv (r : List Nat) : List AV := r.map fun (c : Nat) => AV.int c
noncomputable def nx (n c : Nat) : Nat := if c % 4 = 0 then c / 4 % 4 else n
noncomputable def fin (n : Nat) : List Nat → Nat
  | [] => n
  | c :: r => fin (nx n c) r
noncomputable def oct (n : Nat) : List Nat → List Nat
  | [] => []
  | c :: r => (c + n) :: (List.replicate n n ++ oct (nx n c) r)
noncomputable def nm (n : Nat) : AV := match n with
  | 0 => .none
  | 1 => .str ""
  | 2 => .str "utf-16"
  | _ => .str "UTF-16"
noncomputable def nmsL : List AV := [.none, .str "", .str "utf-16", .str "UTF-16"]
noncomputable def bs (o : List Nat) : Array UInt8 := byteArr (o.map fun (c : Nat) => (c : Int))
theorem four {k : Nat} (h : k < 4) : k = 0 ∨ k = 1 ∨ k = 2 ∨ k = 3 := by omega
theorem nm_pl {n : Nat} (h : n < 4) : (nm n).pl = true := by rcases four h with rfl | rfl | rfl | rfl <;> rfl
theorem nx_lt {n : Nat} (h : n < 4) (c : Nat) : nx n c < 4 := by unfold nx; split <;> omega
theorem fin_lt : ∀ (r : List Nat) {n : Nat}, n < 4 → fin n r < 4
  | [], _, h => h
  | c :: r, _, h => fin_lt r (nx_lt h c)
theorem fin_app : ∀ (d e : List Nat) (n : Nat), fin n (d ++ e) = fin (fin n d) e
  | [], _, _ => rfl
  | c :: d, e, n => fin_app d e (nx n c)
theorem oct_app : ∀ (d e : List Nat) (n : Nat), oct n (d ++ e) = oct n d ++ oct (fin n d) e
  | [], _, _ => rfl
  | c :: d, e, n => by simp only [List.cons_append, oct, fin, oct_app d e, List.append_assoc]
theorem oct_len : ∀ (r : List Nat) {n : Nat}, n < 4 → (oct n r).length ≤ 4 * r.length
  | [], _, _ => by simp [oct]
  | c :: r, n, h => by have := oct_len r (nx_lt h c); simp [oct]; omega
theorem oct_le : ∀ (r : List Nat) {n : Nat}, n < 4 → (∀ c ∈ r, c < 128) → ∀ x ∈ oct n r, x < 256
  | [], _, _, _, _, hx => by cases hx
  | c :: r, n, h, hc, x, hx => by
    have h1 := hc c List.mem_cons_self
    simp only [oct, List.mem_cons, List.mem_append, List.mem_replicate] at hx
    rcases hx with hx | hx | hx
    · omega
    · omega
    · exact oct_le r (nx_lt h c) (fun d hd => hc d (List.mem_cons_of_mem _ hd)) x hx
theorem oct_at (d e : List Nat) (c n : Nat) : (oct n (d ++ c :: e))[(oct n d).length]? = some (c + fin n d) := by
  rw [oct_app, List.getElem?_append_right (Nat.le_refl _)]; simp [oct]
theorem oct_snoc (d : List Nat) (c n : Nat) : (oct n (d ++ [c])).length = (oct n d).length + fin n d + 1 := by
  rw [oct_app]; simp [oct]; omega
theorem cv_app (a b : List Nat) : cv (a ++ b) = cv a ++ cv b := by simp [cv]
theorem cv_len (a : List Nat) : (cv a).length = a.length := by simp [cv]
theorem cv_ints : ∀ r : List Nat, intsOf (cv r) = some (r.map fun (c : Nat) => (c : Int))
  | [] => rfl
  | c :: r => by
    have := cv_ints r
    unfold cv at this ⊢
    simp [intsOf, this]
theorem bs_size (o : List Nat) : (bs o).size = o.length := by simp [bs, byteArr]
theorem bs_at {o : List Nat} {k x : Nat} (h : o[k]? = some x) (hx : x < 256) : ((bs o).toList.getD k 0).toNat = x := by
  have e : (bs o).toList = o.map fun (c : Nat) => c.toUInt8 := by simp [bs, byteArr]
  rw [e, List.getD_eq_getElem?_getD, List.getElem?_map, h]
  simp; omega
theorem names_is (loc : List AV) (I : List Ins) (L : LH) (N : Nat) : callM F_law_names [] ⟨loc, I, L, N⟩ = some (.lst nmsL, ⟨loc, I, L, N⟩) := by
  simp [F_law_names, B_law_names, callM, runFn, runFnG, thenM, asgM, retM, dropM, iteM, bd, consM, methM, lmethM, chkL, var_eq, pu, no, getF, setF, attrM, putM, lstM, tupM, endFn, newM, newLob, blank, setV, u_none, u_bool, u_int, u_str, u_bytes, u_ins, u_lob, u_lst, u_lsb, u_tup, Ins.get, Ins.put, bin2, cmp2, boolV, orM, notM, truthM, addM, subM, modM, divM, addLM, mulLM, itemsM, items2M, lenM, getItemM, idxM, appendM, extendM, getL1, putL1, lookL, putSeg, pushL1, unpackM, consA, nilA, swapM, frzV, frz0, nmsL]
theorem names_at {n : Nat} (h : n < 4) (st : AS) : item2M (.lst nmsL) (.int (n : Int)) st = some (nm n, st) := by
  rcases four h with rfl | rfl | rfl | rfl <;> simp [item2M, getItemM, itemsM, idxM, nmsL, nm]
theorem names_idx {n : Nat} (h : n < 4) (st : AS) : indexM (.lst nmsL) [nm n] st = some (.int (n : Int), st) := by
  rcases four h with rfl | rfl | rfl | rfl <;> rfl
theorem wr_one {X : AV} {c n K M : Nat} {os : List Nat} {I : List Ins} {L : LH} (hn : n < 4) (hl : os.length ≤ 1000) : B_law_written_1 ⟨[X, .int (c : Int), .lob K, .int (n : Int)], I, [(K, cv os)] :: L, M⟩ = some (.next, ⟨[X, .int (c : Int), .lob K, .int ((nx n c : Nat) : Int)], I, [(K, cv (os ++ (c + n) :: List.replicate n n))] :: L, M⟩) := by
  have hd : (c : Int) / 4 % 4 = ((c / 4 % 4 : Nat) : Int) := by omega
  have hl1 : (cv os).length = os.length := cv_len os
  have e1 : ∀ st : AS, (match thenM (iteM (cmp2 (bin2 (var 1) (pu (.int 4)) modM) (pu (.int 0)) eqM) (thenM (asgM (bin2 (bin2 (var 1) (pu (.int 4)) divM) (pu (.int 4)) modM) (setV 3)) (pu .next)) (pu .next)) (pu .next) ⟨[X, .int (c : Int), .lob K, .int (n : Int)], I, st.lst, M⟩ with | x => x) = some (.next, ⟨[X, .int (c : Int), .lob K, .int ((nx n c : Nat) : Int)], I, st.lst, M⟩) := by
    intro st
    by_cases q : c % 4 = 0
    · have q' : (c : Int) % 4 = 0 := by omega
      simp [callM, runFn, runFnG, thenM, asgM, retM, dropM, iteM, bd, consM, methM, lmethM, chkL, var_eq, pu, no, getF, setF, attrM, putM, lstM, tupM, endFn, newM, newLob, blank, setV, u_none, u_bool, u_int, u_str, u_bytes, u_ins, u_lob, u_lst, u_lsb, u_tup, Ins.get, Ins.put, bin2, cmp2, boolV, orM, notM, truthM, addM, subM, modM, divM, addLM, mulLM, itemsM, items2M, lenM, getItemM, idxM, appendM, extendM, getL1, putL1, lookL, putSeg, pushL1, unpackM, consA, nilA, swapM, frzV, frz0, eqM, eqF, q', nx, q]
    · have q' : ¬ (c : Int) % 4 = 0 := by omega
      simp [callM, runFn, runFnG, thenM, asgM, retM, dropM, iteM, bd, consM, methM, lmethM, chkL, var_eq, pu, no, getF, setF, attrM, putM, lstM, tupM, endFn, newM, newLob, blank, setV, u_none, u_bool, u_int, u_str, u_bytes, u_ins, u_lob, u_lst, u_lsb, u_tup, Ins.get, Ins.put, bin2, cmp2, boolV, orM, notM, truthM, addM, subM, modM, divM, addLM, mulLM, itemsM, items2M, lenM, getItemM, idxM, appendM, extendM, getL1, putL1, lookL, putSeg, pushL1, unpackM, consA, nilA, swapM, frzV, frz0, eqM, eqF, q', nx, q]
  have e2 : dropM (lmethM (var 2) (consM (bin2 (bd (consM (bin2 (var 1) (var 3) addM) (pu [])) lstM) (bin2 (bd (consM (var 3) (pu [])) lstM) (var 3) mulM) addM) (pu [])) extendM) ⟨[X, .int (c : Int), .lob K, .int (n : Int)], I, [(K, cv os)] :: L, M⟩ = some (.next, ⟨[X, .int (c : Int), .lob K, .int (n : Int)], I, [(K, cv (os ++ (c + n) :: List.replicate n n))] :: L, M⟩) := by
    rcases four hn with rfl | rfl | rfl | rfl <;> simp [callM, runFn, runFnG, thenM, asgM, retM, dropM, iteM, bd, consM, methM, lmethM, chkL, var_eq, pu, no, getF, setF, attrM, putM, lstM, tupM, endFn, newM, newLob, blank, setV, u_none, u_bool, u_int, u_str, u_bytes, u_ins, u_lob, u_lst, u_lsb, u_tup, Ins.get, Ins.put, bin2, cmp2, boolV, orM, notM, truthM, addM, subM, modM, divM, addLM, mulLM, itemsM, items2M, lenM, getItemM, idxM, appendM, extendM, getL1, putL1, lookL, putSeg, pushL1, unpackM, consA, nilA, swapM, frzV, frz0, mulM, hl1, cv_app, show os.length + 1 ≤ 100000 by omega, show os.length + 2 ≤ 100000 by omega, show os.length + 3 ≤ 100000 by omega, show os.length + 4 ≤ 100000 by omega] <;> simp [cv, List.replicate]
  rw [B_law_written_1, then_next e2]
  exact e1 ⟨[], [], [(K, cv (os ++ (c + n) :: List.replicate n n))] :: L, M⟩
theorem wr_all {K M : Nat} {I : List Ins} {L : LH} : ∀ (r pre os : List Nat) (n : Nat) (l1 : AV), n < 4 → os.length + 4 * r.length ≤ 900 →
    ∃ l1', forG nxA (setV 1) B_law_written_1 (r.length + 1) (.lst (cv (pre ++ r)), pre.length) ⟨[.lst (cv (pre ++ r)), l1, .lob K, .int (n : Int)], I, [(K, cv os)] :: L, M⟩ = some (.next, ⟨[.lst (cv (pre ++ r)), l1', .lob K, .int ((fin n r : Nat) : Int)], I, [(K, cv (os ++ oct n r))] :: L, M⟩)
  | [], pre, os, n, l1, hn, hl => ⟨l1, by rw [forA_end (items_lst _ _) (by rw [cv_len]; simp)]; simp [fin, oct]⟩
  | c :: r, pre, os, n, l1, hn, hl => by
    rw [List.length_cons] at hl
    obtain ⟨l1', e⟩ := wr_all (K := K) (M := M) (I := I) (L := L) r (pre ++ [c]) (os ++ (c + n) :: List.replicate n n) (nx n c) (.int (c : Int)) (nx_lt hn c) (by simp; omega)
    refine ⟨l1', ?_⟩
    have hp : pre ++ [c] ++ r = pre ++ c :: r := by simp
    rw [hp] at e
    rw [List.length_cons, forA_next (st1 := ⟨[.lst (cv (pre ++ c :: r)), .int (c : Int), .lob K, .int (n : Int)], I, [(K, cv os)] :: L, M⟩) (items_lst _ _) (by rw [cv_app, List.getElem?_append_right (by rw [cv_len]; exact Nat.le_refl _), cv_len]; simp [cv]) rfl (wr_one hn (by omega))]
    rw [show (pre ++ [c]).length = pre.length + 1 by simp] at e
    rw [e]
    simp [fin, oct]
noncomputable def pairV (r : List Nat) : AV := .tup [.bytes (bs (oct 0 r)), nm (fin 0 r)]
theorem written_is (r : List Nat) (hr : ∀ c ∈ r, c < 128) (hl : r.length ≤ 100) (loc : List AV) (I : List Ins) (L : LH) (N : Nat) : callM F_law_written [.lst (cv r)] ⟨loc, I, L, N⟩ = some (pairV r, ⟨loc, I, L, N + 1⟩) := by
  obtain ⟨l1', e⟩ := wr_all (K := N) (M := N + 1) (I := I) (L := L) r [] [] 0 .unb (by decide) (by simp; omega)
  rw [List.nil_append, List.nil_append] at e
  have hf := fin_lt r (n := 0) (by decide)
  have ho := oct_len r (n := 0) (by decide)
  have hb := oct_le r (n := 0) (by decide) hr
  have e1 : asgM (bd (consM (bd (pu []) newLob) (consM (pu (.int 0)) (pu []))) tupM) (swapM 2 (consA (setV 3) (consA (setV 2) (nilA)))) ⟨[.lst (cv r), .unb, .unb, .unb], I, [] :: L, N⟩ = some (.next, ⟨[.lst (cv r), .unb, .lob N, .int ((0 : Nat) : Int)], I, [(N, cv [])] :: L, N + 1⟩) := rfl
  have e2 := forA_is (f := var 0) (st := ⟨[.lst (cv r), .unb, .lob N, .int ((0 : Nat) : Int)], I, [(N, cv [])] :: L, N + 1⟩) (X := .lst (cv r)) (st1 := ⟨[.lst (cv r), .unb, .lob N, .int ((0 : Nat) : Int)], I, [(N, cv [])] :: L, N + 1⟩) (xs := cv r) rfl (items_lst _ _) (Eq.trans (by rw [cv_len]; rfl) e)
  have e3 : retM (bd (consM (bd (consM (var 2) (pu [])) bytesM) (consM (bin2 (bd (pu []) (callM F_law_names)) (var 3) item2M) (pu []))) tupM) ⟨[.lst (cv r), l1', .lob N, .int ((fin 0 r : Nat) : Int)], I, [(N, cv (oct 0 r))] :: L, N + 1⟩ = some (.ret (pairV r), ⟨[.lst (cv r), l1', .lob N, .int ((fin 0 r : Nat) : Int)], I, [(N, cv (oct 0 r))] :: L, N + 1⟩) := by
    have a1 : ∀ loc, callM F_law_names [] ⟨loc, I, [(N, cv (oct 0 r))] :: L, N + 1⟩ = _ := fun loc => names_is loc I ([(N, cv (oct 0 r))] :: L) (N + 1)
    have a2 := names_at hf
    have a3 : (List.all (List.map (fun (c : Nat) => (c : Int)) (oct 0 r)) fun k => decide (0 ≤ k ∧ k < 256)) = true := by
      simp only [List.all_eq_true, List.mem_map]
      rintro _ ⟨x, hx, rfl⟩
      have := hb x hx
      simp; omega
    generalize callM F_law_names = FN at a1 ⊢
    simp only [retM, bd, consM, var_eq, List.getElem?_cons_succ, List.getElem?_cons_zero, u_lob, u_int, Bool.false_eq_true, if_false, pu, bytesM, itemsM, getL1, lookL, if_true, cv_ints, cv_len, show (oct 0 r).length ≤ 100000 by omega, a3, bin2, a1, a2, tupM, and_self]
    rfl
  have h := call_ret (k := 1) (m := 3) (g := B_law_written) (xs := [.lst (cv r)]) (loc := loc) (ins := I) (L := L) (N := N) rfl (show B_law_written ⟨[.lst (cv r)] ++ List.replicate 3 .unb, I, [] :: L, N⟩ = some (.ret (pairV r), ⟨[.lst (cv r), l1', .lob N, .int ((fin 0 r : Nat) : Int)], I, [(N, cv (oct 0 r))] :: L, N + 1⟩) from by
    show B_law_written ⟨[.lst (cv r), .unb, .unb, .unb], I, [] :: L, N⟩ = _
    rw [B_law_written, then_next e1, then_next e2, then_ret e3])
  rw [F_law_written, h]
  have a4 : frz0 [(N, cv (oct 0 r))] (nm (fin 0 r)) = nm (fin 0 r) := pl_frz (nm_pl hf) _
  simp only [pairV, frzV, List.map_cons, List.map_nil, a4]
  rfl
--@@
noncomputable def sgn (c : Nat) : AV := .str ⟨#[c]⟩
noncomputable def lastV (d : List Nat) : AV := match d.getLast? with
  | some c => sgn c
  | .none => .none
noncomputable def srcI (r d : List Nat) : Ins := ⟨lastV d, .int (((oct 0 d).length : Nat) : Int), nm (fin 0 d), .bytes (bs (oct 0 r)), .str ⟨d.toArray⟩⟩
theorem read_end {ins : List Ins} {k : Nat} {r : List Nat} (h : ins[k]? = some (srcI r r)) (hr : (oct 0 r).length ≤ 1000) (loc : List AV) (L : LH) (N : Nat) : callM F_law_read [.ins k] ⟨loc, ins, L, N⟩ = some (.lst [], ⟨loc, ins, L, N⟩) := by
  have h1 := bs_size (oct 0 r)
  simp [F_law_read, B_law_read, callM, runFn, runFnG, thenM, asgM, retM, dropM, iteM, bd, consM, methM, lmethM, chkL, var_eq, pu, no, getF, setF, attrM, putM, lstM, tupM, endFn, newM, newLob, blank, setV, u_none, u_bool, u_int, u_str, u_bytes, u_ins, u_lob, u_lst, u_lsb, u_tup, Ins.get, Ins.put, bin2, cmp2, boolV, orM, notM, truthM, addM, subM, modM, divM, addLM, mulLM, itemsM, items2M, lenM, getItemM, idxM, appendM, extendM, getL1, putL1, lookL, putSeg, pushL1, unpackM, consA, nilA, swapM, frzV, frz0, h, srcI, lenBM, eqM, eqF, h1, show (oct 0 r).length ≤ 100000 by omega]
theorem sgn_u (c : Nat) : (sgn c).isU = false := rfl
theorem item_bs {o : List Nat} {k x : Nat} (h : o[k]? = some x) (hx : x < 256) (hl : o.length ≤ 1000) (st : AS) : item2M (.bytes (bs o)) (.int (k : Int)) st = some (.int (x : Int), st) := by
  have hk := (List.getElem?_eq_some_iff.mp h).1
  simp only [item2M, bs_size]
  rw [if_pos (by omega), Int.toNat_natCast, bs_at h hx]
  rfl
theorem chr_is {c : Nat} (hc : c < 128) (st : AS) : chrM [.int (c : Int)] st = some (sgn c, st) := by
  simp only [chrM]
  rw [if_pos (by omega)]
  rfl
theorem ord_is (c : Nat) (st : AS) : ordM [sgn c] st = some (.int (c : Int), st) := rfl
theorem lenB_is {o : List Nat} (hl : o.length ≤ 1000) (st : AS) : lenBM [.bytes (bs o)] st = some (.int (o.length : Int), st) := by
  simp only [lenBM, bs_size]
  rw [if_pos (by omega)]
section
variable {ins : List Ins} {k c N : Nat} {d e : List Nat} {L : LH} {i : Ins} {v : AV}
theorem g_fd (f : Fd) (h : ins[k]? = some i) (loc : List AV) : callM (getF f) [.ins k] ⟨loc, ins, L, N⟩ = some (i.get f, ⟨loc, ins, L, N⟩) := by
  simp [callM, getF, attrM, h]
theorem s_fd (f : Fd) (h : ins[k]? = some i) (loc : List AV) : callM (setF f) [.ins k, v] ⟨loc, ins, L, N⟩ = some (.none, ⟨loc, ins.set k (i.put v f), L, N⟩) := by
  simp only [callM, setF, bd, putM, h, pu]
theorem set_at (h : ins[k]? = some i) (i' : Ins) : (ins.set k i')[k]? = some i' := List.getElem?_set_self (List.getElem?_eq_some_iff.mp h).1
theorem str_app (a b : List Nat) : ((⟨a.toArray⟩ : Str) ++ (⟨b.toArray⟩ : Str)) = ⟨(a ++ b).toArray⟩ := by
  show Str.append _ _ = _
  simp [Str.append]
theorem add_tx {d : List Nat} (hd : d.length ≤ 1000) (c : Nat) (st : AS) : addM (.str ⟨d.toArray⟩) (sgn c) st = some (.str ⟨(d ++ [c]).toArray⟩, st) := by
  simp only [addM, sgn]
  rw [if_pos (by simp [Str.length]; omega)]
  show some (AV.str ((⟨d.toArray⟩ : Str) ++ (⟨[c].toArray⟩ : Str)), st) = _
  rw [str_app]
theorem last_snoc (d : List Nat) (c : Nat) : lastV (d ++ [c]) = sgn c := by simp [lastV]
theorem read_next (h : ins[k]? = some (srcI (d ++ c :: e) d)) (hr : ∀ x ∈ d ++ c :: e, x < 128) (hl : (d ++ c :: e).length ≤ 100) (loc : List AV) :
    ∃ m, m ≤ 4 ∧ callM F_law_read [.ins k] ⟨loc, ins, L, N⟩ = some (.lst (List.replicate m .none), ⟨loc, ins.set k (srcI (d ++ c :: e) (d ++ [c])), L, N + 1⟩) := by
  have ho := oct_len (d ++ c :: e) (n := 0) (by decide)
  have hf := fin_lt d (n := 0) (by decide)
  have hat := oct_at d e c 0
  have hlt := (List.getElem?_eq_some_iff.mp hat).1
  have hc : c < 128 := hr c (by simp)
  have hdl : d.length ≤ 100 := by simp at hl; omega
  generalize hR : d ++ c :: e = r at h hr hl ho hat hlt ⊢
  have e1 : asgM (bd (consM (methM (var 0) (pu []) (getF .byt)) (consM (methM (var 0) (pu []) (getF .pub)) (pu []))) tupM) (swapM 2 (consA (setV 5) (consA (setV 4) (nilA)))) ⟨[.ins k, .unb, .unb, .unb, .unb, .unb], ins, [] :: L, N⟩ = some (.next, ⟨[.ins k, .unb, .unb, .unb, .bytes (bs (oct 0 r)), .int (((oct 0 d).length : Nat) : Int)], ins, [] :: L, N⟩) := by
    simp [thenM, asgM, retM, dropM, iteM, bd, consM, methM, lmethM, chkL, var_eq, pu, no, lstM, tupM, newM, newLob, blank, setV, u_none, u_bool, u_int, u_str, u_bytes, u_ins, u_lob, u_lst, u_lsb, u_tup, bin2, cmp2, boolV, orM, notM, truthM, addM, subM, modM, divM, addLM, mulLM, itemsM, items2M, lenM, getItemM, idxM, appendM, extendM, getL1, putL1, lookL, putSeg, pushL1, unpackM, consA, nilA, swapM, frzV, frz0, g_fd _ h, srcI, Ins.get]
  have e2 : iteM (cmp2 (var 5) (bd (consM (var 4) (pu [])) lenBM) eqM) (thenM (retM (bd (pu []) lstM)) (pu .next)) (pu .next) ⟨[.ins k, .unb, .unb, .unb, .bytes (bs (oct 0 r)), .int (((oct 0 d).length : Nat) : Int)], ins, [] :: L, N⟩ = some (.next, ⟨[.ins k, .unb, .unb, .unb, .bytes (bs (oct 0 r)), .int (((oct 0 d).length : Nat) : Int)], ins, [] :: L, N⟩) := by
    have q : ((((oct 0 d).length : Nat) : Int) == (((oct 0 r).length : Nat) : Int)) = false := by
      rw [beq_eq_false_iff_ne]; omega
    have a1 := lenB_is (show (oct 0 r).length ≤ 1000 by omega)
    simp only [iteM, cmp2, bd, consM, var_eq, List.getElem?_cons_succ, List.getElem?_cons_zero, u_bytes, u_int, Bool.false_eq_true, if_false, pu, a1, eqM, eqF, q]
  have e3 : asgM (lmethM (bd (pu []) (callM F_law_names)) (consM (methM (var 0) (pu []) (getF .enc)) (pu [])) indexM) (setV 1) ⟨[.ins k, .unb, .unb, .unb, .bytes (bs (oct 0 r)), .int (((oct 0 d).length : Nat) : Int)], ins, [] :: L, N⟩ = some (.next, ⟨[.ins k, .int ((fin 0 d : Nat) : Int), .unb, .unb, .bytes (bs (oct 0 r)), .int (((oct 0 d).length : Nat) : Int)], ins, [] :: L, N⟩) := by
    have a1 := fun loc => names_is loc ins ([] :: L) N
    have a2 := names_idx hf
    generalize callM F_law_names = FN at a1 ⊢
    simp [thenM, asgM, retM, dropM, iteM, bd, consM, methM, lmethM, chkL, var_eq, pu, no, lstM, tupM, newM, newLob, blank, setV, u_none, u_bool, u_int, u_str, u_bytes, u_ins, u_lob, u_lst, u_lsb, u_tup, bin2, cmp2, boolV, orM, notM, truthM, addM, subM, modM, divM, addLM, mulLM, itemsM, items2M, lenM, getItemM, idxM, appendM, extendM, getL1, putL1, lookL, putSeg, pushL1, unpackM, consA, nilA, swapM, frzV, frz0, g_fd _ h, srcI, Ins.get, a1, a2]
  have e4 : asgM (bd (consM (bin2 (bin2 (var 4) (var 5) item2M) (var 1) subM) (pu [])) chrM) (setV 2) ⟨[.ins k, .int ((fin 0 d : Nat) : Int), .unb, .unb, .bytes (bs (oct 0 r)), .int (((oct 0 d).length : Nat) : Int)], ins, [] :: L, N⟩ = some (.next, ⟨[.ins k, .int ((fin 0 d : Nat) : Int), sgn c, .unb, .bytes (bs (oct 0 r)), .int (((oct 0 d).length : Nat) : Int)], ins, [] :: L, N⟩) := by
    have a1 := item_bs hat (by omega) (show (oct 0 r).length ≤ 1000 by omega)
    have a2 : (((c + fin 0 d : Nat) : Int)) - ((fin 0 d : Nat) : Int) = (c : Int) := by omega
    have a3 := chr_is hc
    simp only [asgM, bd, consM, bin2, var_eq, List.getElem?_cons_succ, List.getElem?_cons_zero, u_bytes, u_int, Bool.false_eq_true, if_false, a1, subM, a2, pu, a3, setV]
    rfl
  have e5 : asgM (bd (consM (methM (var 0) (consM (var 2) (pu [])) (setF .sys)) (consM (methM (var 0) (consM (bin2 (bin2 (var 5) (var 1) addM) (pu (.int 1)) addM) (pu [])) (setF .pub)) (pu []))) newLob) (setV 3) ⟨[.ins k, .int ((fin 0 d : Nat) : Int), sgn c, .unb, .bytes (bs (oct 0 r)), .int (((oct 0 d).length : Nat) : Int)], ins, [] :: L, N⟩ = some (.next, ⟨[.ins k, .int ((fin 0 d : Nat) : Int), sgn c, .lob N, .bytes (bs (oct 0 r)), .int (((oct 0 d).length : Nat) : Int)], ins.set k ⟨sgn c, .int (((oct 0 (d ++ [c])).length : Nat) : Int), nm (fin 0 d), .bytes (bs (oct 0 r)), .str ⟨d.toArray⟩⟩, [(N, [.none, .none])] :: L, N + 1⟩) := by
    have a1 := fun v loc => s_fd (L := [] :: L) (N := N) (v := v) .sys h loc
    have a2 := fun v loc => s_fd (L := [] :: L) (N := N) (v := v) .pub (set_at h ((srcI r d).put (sgn c) .sys)) loc
    have a3 : (((oct 0 d).length : Nat) : Int) + ((fin 0 d : Nat) : Int) + 1 = (((oct 0 (d ++ [c])).length : Nat) : Int) := by rw [oct_snoc]; omega
    simp only [asgM, bd, consM, bin2, var_eq, List.getElem?_cons_succ, List.getElem?_cons_zero, sgn_u, u_ins, u_bytes, u_int, Bool.false_eq_true, if_false, methM, a1, a2, addM, a3, pu, newLob, setV, List.set_set]
    rfl
  have h6 := set_at h ⟨sgn c, .int (((oct 0 (d ++ [c])).length : Nat) : Int), nm (fin 0 d), .bytes (bs (oct 0 r)), .str ⟨d.toArray⟩⟩
  have e6 : dropM (lmethM (var 3) (consM (methM (var 0) (consM (bin2 (methM (var 0) (pu []) (getF .chr)) (var 2) addM) (pu [])) (setF .chr)) (pu [])) appendM) ⟨[.ins k, .int ((fin 0 d : Nat) : Int), sgn c, .lob N, .bytes (bs (oct 0 r)), .int (((oct 0 d).length : Nat) : Int)], ins.set k ⟨sgn c, .int (((oct 0 (d ++ [c])).length : Nat) : Int), nm (fin 0 d), .bytes (bs (oct 0 r)), .str ⟨d.toArray⟩⟩, [(N, [.none, .none])] :: L, N + 1⟩ = some (.next, ⟨[.ins k, .int ((fin 0 d : Nat) : Int), sgn c, .lob N, .bytes (bs (oct 0 r)), .int (((oct 0 d).length : Nat) : Int)], ins.set k ⟨sgn c, .int (((oct 0 (d ++ [c])).length : Nat) : Int), nm (fin 0 d), .bytes (bs (oct 0 r)), .str ⟨(d ++ [c]).toArray⟩⟩, [(N, [.none, .none, .none])] :: L, N + 1⟩) := by
    have a1 := fun loc => g_fd (L := [(N, [.none, .none])] :: L) (N := N + 1) .chr h6 loc
    have a2 := fun v loc => s_fd (L := [(N, [.none, .none])] :: L) (N := N + 1) (v := v) .chr h6 loc
    have a3 := add_tx (show d.length ≤ 1000 by omega) c
    simp only [dropM, lmethM, chkL, itemsM, bd, consM, bin2, var_eq, List.getElem?_cons_succ, List.getElem?_cons_zero, sgn_u, u_ins, u_lob, u_bytes, u_int, Bool.false_eq_true, if_false, methM, a1, a2, Ins.get, a3, pu, appendM, getL1, lookL, if_true, putL1, putSeg, List.set_set, Ins.put, List.cons_append, List.nil_append]
    rfl
  have h7 := set_at h ⟨sgn c, .int (((oct 0 (d ++ [c])).length : Nat) : Int), nm (fin 0 d), .bytes (bs (oct 0 r)), .str ⟨(d ++ [c]).toArray⟩⟩
  have e7 : ∃ m, m ≤ 4 ∧ iteM (cmp2 (bin2 (bd (consM (var 2) (pu [])) ordM) (pu (.int 4)) modM) (pu (.int 0)) eqM) (thenM (dropM (lmethM (var 3) (consM (methM (var 0) (consM (bin2 (bd (pu []) (callM F_law_names)) (bin2 (bin2 (bd (consM (var 2) (pu [])) ordM) (pu (.int 4)) divM) (pu (.int 4)) modM) item2M) (pu [])) (setF .enc)) (pu [])) appendM)) (pu .next)) (pu .next) ⟨[.ins k, .int ((fin 0 d : Nat) : Int), sgn c, .lob N, .bytes (bs (oct 0 r)), .int (((oct 0 d).length : Nat) : Int)], ins.set k ⟨sgn c, .int (((oct 0 (d ++ [c])).length : Nat) : Int), nm (fin 0 d), .bytes (bs (oct 0 r)), .str ⟨(d ++ [c]).toArray⟩⟩, [(N, [.none, .none, .none])] :: L, N + 1⟩ = some (.next, ⟨[.ins k, .int ((fin 0 d : Nat) : Int), sgn c, .lob N, .bytes (bs (oct 0 r)), .int (((oct 0 d).length : Nat) : Int)], ins.set k (srcI r (d ++ [c])), [(N, List.replicate m .none)] :: L, N + 1⟩) := by
    have b1 := ord_is c
    have b2 : fin 0 (d ++ [c]) = nx (fin 0 d) c := by rw [fin_app]; rfl
    by_cases q : c % 4 = 0
    · refine ⟨4, by omega, ?_⟩
      have q1 : (c : Int) % 4 = 0 := by omega
      have q2 : (c : Int) / 4 % 4 = ((c / 4 % 4 : Nat) : Int) := by omega
      have b3 : fin 0 (d ++ [c]) = c / 4 % 4 := by rw [b2, nx, if_pos q]
      have a1 := fun loc I => names_is loc I ([(N, [.none, .none, .none])] :: L) (N + 1)
      have a2 := names_at (show c / 4 % 4 < 4 by omega)
      have a4 := fun v loc => s_fd (L := [(N, [.none, .none, .none])] :: L) (N := N + 1) (v := v) .enc h7 loc
      generalize callM F_law_names = FN at a1 ⊢
      simp only [iteM, cmp2, thenM, dropM, lmethM, chkL, itemsM, bd, consM, bin2, var_eq, List.getElem?_cons_succ, List.getElem?_cons_zero, sgn_u, u_ins, u_lob, u_bytes, u_int, Bool.false_eq_true, if_false, methM, b1, modM, divM, q1, q2, eqM, eqF, a1, a2, a4, pu, appendM, getL1, lookL, if_true, putL1, putSeg, List.set_set, Ins.put, srcI, last_snoc, b3, show (0 : Int) < 4 from by decide, show (4 : Int) < 1000000 from by decide, and_self, beq_self_eq_true]
      rfl
    · refine ⟨3, by omega, ?_⟩
      have q1 : ((c : Int) % 4 == 0) = false := by rw [beq_eq_false_iff_ne]; omega
      have b3 : fin 0 (d ++ [c]) = fin 0 d := by rw [b2, nx, if_neg q]
      simp only [iteM, cmp2, bd, consM, bin2, var_eq, List.getElem?_cons_succ, List.getElem?_cons_zero, sgn_u, Bool.false_eq_true, if_false, b1, modM, q1, eqM, eqF, pu, if_true, show (0 : Int) < 4 from by decide, srcI, last_snoc, b3]
      rfl
  obtain ⟨m, hm, e7⟩ := e7
  refine ⟨m, hm, ?_⟩
  have e8 := call_ret (k := 1) (m := 5) (g := B_law_read) (xs := [.ins k]) (loc := loc) (ins := ins) (L := L) (N := N) rfl (show B_law_read ⟨[.ins k] ++ List.replicate 5 .unb, ins, [] :: L, N⟩ = some (.ret (.lob N), ⟨[.ins k, .int ((fin 0 d : Nat) : Int), sgn c, .lob N, .bytes (bs (oct 0 r)), .int (((oct 0 d).length : Nat) : Int)], ins.set k (srcI r (d ++ [c])), [(N, List.replicate m .none)] :: L, N + 1⟩) from by
    show B_law_read ⟨[.ins k, .unb, .unb, .unb, .unb, .unb], ins, [] :: L, N⟩ = _
    rw [B_law_read, then_next e1, then_next e2, then_next e3, then_next e4, then_next e5, then_next e6, then_next e7]
    rfl)
  rw [F_law_read, e8]
  simp [frzV, frz0, lookL]
end
--@@
theorem read_turn {ins : List Ins} {k t : Nat} {r : List Nat} (h : ins[k]? = some (srcI r (r.take t))) (hr : ∀ x ∈ r, x < 128) (hl : r.length ≤ 100) (loc : List AV) (L : LH) (N : Nat) :
    ∃ m N', m ≤ 4 ∧ callM F_law_read [.ins k] ⟨loc, ins, L, N⟩ = some (.lst (List.replicate m .none), ⟨loc, ins.set k (srcI r (r.take (t + 1))), L, N'⟩) := by
  by_cases q : t < r.length
  · have e1 : r.take t ++ r[t] :: r.drop (t + 1) = r := by rw [← List.drop_eq_getElem_cons q, List.take_append_drop]
    have e2 : r.take (t + 1) = r.take t ++ [r[t]] := by rw [List.take_add_one, List.getElem?_eq_getElem q]; rfl
    obtain ⟨m, hm, e⟩ := read_next (ins := ins) (k := k) (c := r[t]) (d := r.take t) (e := r.drop (t + 1)) (L := L) (N := N) (by rw [e1]; exact h) (by rw [e1]; exact hr) (by rw [e1]; exact hl) loc
    rw [e1, ← e2] at e
    exact ⟨m, N + 1, hm, e⟩
  · have e1 : r.take t = r := List.take_of_length_le (by omega)
    have e2 : r.take (t + 1) = r := List.take_of_length_le (by omega)
    rw [e1] at h
    have ho := oct_len r (n := 0) (by decide)
    have e3 : ins.set k (srcI r r) = ins := by
      obtain ⟨hk, hv⟩ := List.getElem?_eq_some_iff.mp h
      rw [← hv]; exact List.set_getElem_self hk
    exact ⟨0, N, by omega, by rw [e2, e3]; exact read_end h (by omega) loc L N⟩
section
variable {s l1 l2 l3 l5 l7 l8 l9 l10 : AV} {ins : List Ins} {A k t N : Nat} {r r0 r1 r2 : List Nat} {ans : List AV}
theorem b3 (h : ins[k]? = some (srcI r (r.take t))) (hr : ∀ x ∈ r, x < 128) (hl : r.length ≤ 100) (ha : ans.length ≤ 90000) :
    ∃ m N', m ≤ 4 ∧ B_law_3 ⟨[s, l1, l2, l3, .lob A, l5, .ins k, l7, l8, l9, l10], ins, [[(A, ans)]], N⟩ = some (.next, ⟨[s, l1, l2, l3, .lob A, l5, .ins k, l7, l8, l9, l10], ins.set k (srcI r (r.take (t + 1))), [[(A, ans ++ List.replicate m .none)]], N'⟩) := by
  obtain ⟨m, N', hm, e⟩ := read_turn h hr hl [s, l1, l2, l3, .lob A, l5, .ins k, l7, l8, l9, l10] [[(A, ans)]] N
  refine ⟨m, N', hm, ?_⟩
  generalize hF : callM F_law_read = FR at e
  rw [B_law_3, S5_1, hF]
  simp only [thenM, dropM, lmethM, chkL, itemsM, bd, consM, var_eq, List.getElem?_cons_succ, List.getElem?_cons_zero, u_ins, u_lob, Bool.false_eq_true, if_false, pu, extendM, getL1, lookL, if_true, putL1, putSeg, e, List.length_replicate, show ans.length + m ≤ 100000 by omega]
theorem b4 {l6 : AV} (h0 : ∀ x ∈ r0, x < 128) (h1 : ∀ x ∈ r1, x < 128) (h2 : ∀ x ∈ r2, x < 128) (g0 : r0.length ≤ 100) (g1 : r1.length ≤ 100) (g2 : r2.length ≤ 100) (ha : ans.length ≤ 80000) :
    ∃ m N', m ≤ 12 ∧ B_law_4 ⟨[s, l1, l2, .lst [.ins 0, .ins 1, .ins 2], .lob A, l5, l6, l7, l8, l9, l10], [srcI r0 (r0.take (t)), srcI r1 (r1.take (t)), srcI r2 (r2.take (t))], [[(A, ans)]], N⟩ = some (.next, ⟨[s, l1, l2, .lst [.ins 0, .ins 1, .ins 2], .lob A, l5, .ins 2, l7, l8, l9, l10], [srcI r0 (r0.take (t + 1)), srcI r1 (r1.take (t + 1)), srcI r2 (r2.take (t + 1))], [[(A, (ans ++ List.replicate m .none))]], N'⟩) := by
  obtain ⟨m0, N0, k0, e0⟩ := b3 (s := s) (l1 := l1) (l2 := l2) (l3 := .lst [.ins 0, .ins 1, .ins 2]) (l5 := l5) (l7 := l7) (l8 := l8) (l9 := l9) (l10 := l10) (A := A) (N := N) (k := 0) (t := t) (r := r0) (ans := ans) (ins := [srcI r0 (r0.take t), srcI r1 (r1.take t), srcI r2 (r2.take t)]) rfl h0 g0 (by omega)
  obtain ⟨m1, N1, k1, e1⟩ := b3 (s := s) (l1 := l1) (l2 := l2) (l3 := .lst [.ins 0, .ins 1, .ins 2]) (l5 := l5) (l7 := l7) (l8 := l8) (l9 := l9) (l10 := l10) (A := A) (N := N0) (k := 1) (t := t) (r := r1) (ans := ans ++ List.replicate m0 .none) (ins := [srcI r0 (r0.take (t + 1)), srcI r1 (r1.take t), srcI r2 (r2.take t)]) rfl h1 g1 (by simp; omega)
  obtain ⟨m2, N2, k2, e2⟩ := b3 (s := s) (l1 := l1) (l2 := l2) (l3 := .lst [.ins 0, .ins 1, .ins 2]) (l5 := l5) (l7 := l7) (l8 := l8) (l9 := l9) (l10 := l10) (A := A) (N := N1) (k := 2) (t := t) (r := r2) (ans := ans ++ List.replicate m0 .none ++ List.replicate m1 .none) (ins := [srcI r0 (r0.take (t + 1)), srcI r1 (r1.take (t + 1)), srcI r2 (r2.take t)]) rfl h2 g2 (by simp; omega)
  refine ⟨m0 + m1 + m2, N2, by omega, ?_⟩
  have hz : ans ++ List.replicate (m0 + m1 + m2) AV.none = ans ++ List.replicate m0 .none ++ List.replicate m1 .none ++ List.replicate m2 .none := by simp [List.replicate_append_replicate, Nat.add_assoc]
  rw [hz]
  have e3 : S4_1 ⟨[s, l1, l2, .lst [.ins 0, .ins 1, .ins 2], .lob A, l5, l6, l7, l8, l9, l10], [srcI r0 (r0.take (t)), srcI r1 (r1.take (t)), srcI r2 (r2.take (t))], [[(A, ans)]], N⟩ = _ := forA_is (X := .lst [.ins 0, .ins 1, .ins 2]) (st1 := ⟨[s, l1, l2, .lst [.ins 0, .ins 1, .ins 2], .lob A, l5, l6, l7, l8, l9, l10], [srcI r0 (r0.take (t)), srcI r1 (r1.take (t)), srcI r2 (r2.take (t))], [[(A, ans)]], N⟩) (xs := [.ins 0, .ins 1, .ins 2]) rfl (items_lst _ _) (Eq.trans (forA_next (items_lst _ _) (x := .ins 0) rfl rfl e0) (Eq.trans (forA_next (items_lst _ _) (x := .ins 1) rfl rfl e1) (Eq.trans (forA_next (items_lst _ _) (x := .ins 2) rfl rfl e2) (forA_end (items_lst _ _) (by decide)))))
  rw [B_law_4, then_next e3]
  rfl
end
theorem turns {s l1 l2 l7 l8 l9 l10 : AV} {A : Nat} {r0 r1 r2 : List Nat} (h0 : ∀ x ∈ r0, x < 128) (h1 : ∀ x ∈ r1, x < 128) (h2 : ∀ x ∈ r2, x < 128) (g0 : r0.length ≤ 100) (g1 : r1.length ≤ 100) (g2 : r2.length ≤ 100) : ∀ (xs : List AV) (l5 l6 : AV) (t m N : Nat), m + 12 * xs.length ≤ 80000 →
    ∃ (l5' l6' : AV) (m' N' : Nat), m' ≤ m + 12 * xs.length ∧ forG nxL (setV 5) B_law_4 (xs.length + 1) xs ⟨[s, l1, l2, .lst [.ins 0, .ins 1, .ins 2], .lob A, l5, l6, l7, l8, l9, l10], [srcI r0 (r0.take (t)), srcI r1 (r1.take (t)), srcI r2 (r2.take (t))], [[(A, (List.replicate m .none))]], N⟩ = some (.next, ⟨[s, l1, l2, .lst [.ins 0, .ins 1, .ins 2], .lob A, l5', l6', l7, l8, l9, l10], [srcI r0 (r0.take (t + xs.length)), srcI r1 (r1.take (t + xs.length)), srcI r2 (r2.take (t + xs.length))], [[(A, (List.replicate m' .none))]], N'⟩)
  | [], l5, l6, t, m, N, _ => ⟨l5, l6, m, N, by omega, rfl⟩
  | x :: xs, l5, l6, t, m, N, h => by
    rw [List.length_cons] at h
    obtain ⟨m1, N1, k1, e1⟩ := b4 (s := s) (l1 := l1) (l2 := l2) (l5 := x) (l7 := l7) (l8 := l8) (l9 := l9) (l10 := l10) (l6 := l6) (A := A) (N := N) (t := t) (ans := List.replicate m .none) h0 h1 h2 g0 g1 g2 (by simp; omega)
    rw [List.replicate_append_replicate] at e1
    obtain ⟨l5', l6', m', N', k2, e2⟩ := turns (s := s) (l1 := l1) (l2 := l2) (l7 := l7) (l8 := l8) (l9 := l9) (l10 := l10) (A := A) h0 h1 h2 g0 g1 g2 xs x (.ins 2) (t + 1) (m + m1) N1 (by omega)
    refine ⟨l5', l6', m', N', by rw [List.length_cons]; omega, ?_⟩
    rw [List.length_cons, forL_cons (st1 := ⟨[s, l1, l2, .lst [.ins 0, .ins 1, .ins 2], .lob A, x, l6, l7, l8, l9, l10], [srcI r0 (r0.take (t)), srcI r1 (r1.take (t)), srcI r2 (r2.take (t))], [[(A, (List.replicate m .none))]], N⟩) rfl e1, e2, show t + 1 + xs.length = t + (xs.length + 1) by omega]
--@@
theorem join_tx : ∀ r : List Nat, Txt.join "" (r.map fun c => (⟨#[c]⟩ : Str)) = ⟨r.toArray⟩ := by
  have z : ∀ r : List Nat, Str.join (Str.ofString "") (r.map fun c => (⟨#[c]⟩ : Str)) = ⟨r.toArray⟩ := by
    intro r
    induction r with
    | nil => rfl
    | cons c r ih =>
      cases r with
      | nil => rfl
      | cons d r =>
        rw [List.map_cons, List.map_cons]
        rw [List.map_cons] at ih
        rw [Str.join, ih]
        · show Str.append (Str.append ⟨#[c]⟩ ⟨#[]⟩) ⟨(d :: r).toArray⟩ = _
          simp [Str.append]
        · intro h; cases h
  intro r
  show Builtin.Str.glued (Str.ofString "") _ = _
  rw [StrLaws.glued_eq_join]
  exact z r
theorem strs_tx : ∀ r : List Nat, strsOf (r.map sgn) = some (r.map fun c => (⟨#[c]⟩ : Str))
  | [] => rfl
  | c :: r => by
    have := strs_tx r
    rw [List.map_cons, sgn, strsOf, this]
    rfl
noncomputable def chV : AV → AV
  | .int i => .str ⟨#[i.toNat]⟩
  | v => v
theorem chV_cv : ∀ r : List Nat, ((cv r).filter fun _ => true).map chV = r.map sgn
  | [] => rfl
  | c :: r => by
    have := chV_cv r
    simp only [cv, List.map_cons, List.filter_cons, if_true] at this ⊢
    rw [this]
    rfl
theorem last_is {r : List Nat} (hn : r ≠ []) (hl : r.length ≤ 1000) (st : AS) : item2M (.str ⟨r.toArray⟩) (.int (-1)) st = some (lastV r, st) := by
  rcases List.eq_nil_or_concat r with rfl | ⟨d, c, rfl⟩
  · exact absurd rfl hn
  · rw [List.concat_eq_append] at hl ⊢
    rw [List.length_append] at hl
    simp only [List.length_cons, List.length_nil] at hl
    rw [last_snoc]
    have e : seqIndex? (-1) (Str.length ⟨(d ++ [c]).toArray⟩) = some d.length := by
      simp [seqIndex?, Str.length]
      omega
    simp only [item2M, e, Option.bind_some]
    rw [if_pos (by omega)]
    simp
    rfl
theorem lastV_pl (r : List Nat) : (lastV r).pl = true := by
  unfold lastV
  split <;> rfl
theorem pair0 (r : List Nat) (st : AS) : item2M (pairV r) (.int 0) st = some (.bytes (bs (oct 0 r)), st) := rfl
theorem pair1 (r : List Nat) (st : AS) : item2M (pairV r) (.int 1) st = some (nm (fin 0 r), st) := rfl
theorem pair_u (r : List Nat) : (pairV r).isU = false := rfl
noncomputable def toldL (r : List Nat) : List AV := [lastV r, .int (((oct 0 r).length : Nat) : Int), nm (fin 0 r), .bytes (bs (oct 0 r)), .str ⟨r.toArray⟩]
theorem told_is {ins : List Ins} {k : Nat} {r : List Nat} (h : ins[k]? = some (srcI r r)) (loc : List AV) (L : LH) (N : Nat) : callM F_law_told [.ins k] ⟨loc, ins, L, N⟩ = some (.lst (toldL r), ⟨loc, ins, L, N⟩) := by
  have h1 := lastV_pl r
  have h2 := nm_pl (fin_lt r (n := 0) (by decide))
  generalize hv : lastV r = v at h1
  generalize hw : nm (fin 0 r) = w at h2
  simp [F_law_told, B_law_told, callM, runFn, runFnG, thenM, asgM, retM, dropM, iteM, bd, consM, methM, lmethM, chkL, var_eq, pu, no, getF, setF, attrM, putM, lstM, tupM, endFn, newM, newLob, blank, setV, u_none, u_bool, u_int, u_str, u_bytes, u_ins, u_lob, u_lst, u_lsb, u_tup, Ins.get, Ins.put, bin2, cmp2, boolV, orM, notM, truthM, addM, subM, modM, divM, addLM, mulLM, itemsM, items2M, lenM, getItemM, idxM, appendM, extendM, getL1, putL1, lookL, putSeg, pushL1, unpackM, consA, nilA, swapM, frzV, frz0, h, srcI, toldL, hv, hw, pl_frz h1, pl_frz h2]
theorem told_eq (r : List Nat) (st : AS) : eqAll (eqF st 7) (toldL r) (toldL r) = some true := by
  have h1 := pl_eq (lastV_pl r) st 6
  have h2 := pl_eq (nm_pl (fin_lt r (n := 0) (by decide))) st 6
  simp [toldL, eqAll, h1, h2, eqF]
section
variable {s l1 l2 l3 l4 l5 l7 l10 : AV} {ins : List Ins} {k N : Nat} {r : List Nat} {L : LH}
theorem s21 (hr : ∀ x ∈ r, x < 128) (hl : r.length ≤ 100) : S2_1 ⟨[s, l1, l2, l3, l4, l5, .ins k, l7, pairV r, .lst (cv r), l10], ins, L, N⟩ = some (.next, ⟨[s, l1, l2, l3, l4, l5, .ins k, l7, pairV r, .lst (cv r), .str ⟨r.toArray⟩], ins, L, N + 1⟩) := by
  have e1 : frzE C_law_1 ⟨[s, l1, l2, l3, l4, l5, .ins k, l7, pairV r, .lst (cv r), l10], ins, L, N⟩ = some (.lst (r.map sgn), ⟨[s, l1, l2, l3, l4, l5, .ins k, l7, pairV r, .lst (cv r), l10], ins, L, N + 1⟩) := by
    have := frzE_is (f := C_law_1) (st := ⟨[s, l1, l2, l3, l4, l5, .ins k, l7, pairV r, .lst (cv r), l10], ins, L, N⟩) (st1 := ⟨[s, l1, l2, l3, l4, l5, .ins k, l7, pairV r, .lst (cv r), l10], ins, L, N + 1⟩) (compM_A (caps := []) (f := var 9) (ft := pu true) (fe := bd (consM (var 0) (pu [])) chrM) (st := ⟨[s, l1, l2, l3, l4, l5, .ins k, l7, pairV r, .lst (cv r), l10], ins, L, N⟩) (X := .lst (cv r)) (zs := cv r) (fun _ => true) chV rfl (by rw [cv_len]; omega) (fun _ _ => rfl) (fun _ _ => rfl) (fun _ _ _ => rfl) (fun x hx _ ys => by
      obtain ⟨c, hc, rfl⟩ := List.mem_map.mp hx
      have := chr_is (hr c hc)
      simp only [bd, consM, var_eq, List.getElem?_cons_zero, u_int, Bool.false_eq_true, if_false, pu, this]
      rfl))
    rw [chV_cv] at this
    exact this
  have e2 : ((r.map fun c => (⟨#[c]⟩ : Str)).map (·.length)).sum = r.length := by
    clear e1 hr hl
    induction r with
    | nil => rfl
    | cons c r ih => rw [List.map_cons, List.map_cons, List.sum_cons, ih, List.length_cons]; show 1 + r.length = _; omega
  unfold S2_1
  generalize frzE C_law_1 = FC at e1 ⊢
  simp only [asgM, joinM, bd, consM, pu, e1, itemsM, strs_tx, e2, List.length_map]
  rw [if_pos ⟨by decide, by omega⟩, join_tx]
  rfl
theorem s22 (h : ins[k]? = some (srcI r r)) (hl : r.length ≤ 100) (hn : r ≠ []) : S2_2 ⟨[s, l1, l2, l3, l4, l5, .ins k, l7, pairV r, .lst (cv r), .str ⟨r.toArray⟩], ins, L, N⟩ = some (.next, ⟨[s, l1, l2, l3, l4, l5, .ins k, l7, pairV r, .lst (cv r), .str ⟨r.toArray⟩], ins, L, N⟩) := by
  have ho := oct_len r (n := 0) (by decide)
  have a1 := fun loc => told_is h loc L N
  have a2 := last_is hn (show r.length ≤ 1000 by omega)
  have a3 := lenB_is (show (oct 0 r).length ≤ 1000 by omega)
  have a4 := pair0 r
  have a5 := pair1 r
  have a6 := pair_u r
  have a7 := told_eq r
  unfold S2_2
  generalize callM F_law_told = FT at a1 ⊢
  generalize pairV r = p at a4 a5 a6 ⊢
  have a8 : ∀ st : AS, eqF st 8 (.lst (toldL r)) (.lst (toldL r)) = some true := fun st => by simp only [eqF, itemsM, if_true, a7]
  simp only [iteM, cmp2, bd, consM, bin2, var_eq, List.getElem?_cons_succ, List.getElem?_cons_zero, u_ins, u_str, a6, Bool.false_eq_true, if_false, pu, a1, negM, a2, a3, a4, a5, lstM, neM]
  rw [show ([lastV r, .int (((oct 0 r).length : Nat) : Int), nm (fin 0 r), .bytes (bs (oct 0 r)), .str ⟨r.toArray⟩] : List AV) = toldL r from rfl]
  have a10 : (toldL r).length ≤ 100000 := by rw [show (toldL r).length = 5 from rfl]; decide
  simp only [a10, if_true, a8]
  rfl
end
--@@
theorem fin_all {s l1 l2 l3 l4 l5 l7 : AV} {ins : List Ins} {L : LH} {R : Nat → List Nat} (hI : ∀ k, k < 3 → ins[k]? = some (srcI (R k) (R k))) (hr : ∀ k, k < 3 → ∀ x ∈ R k, x < 128) (hl : ∀ k, k < 3 → (R k).length ≤ 100) (hn : ∀ k, k < 3 → R k ≠ []) : ∀ (ks : List Nat) (l6 l8 l9 l10 : AV) (N : Nat), (∀ k ∈ ks, k < 3) →
    ∃ (l6' l8' l9' l10' : AV) (N' : Nat), forG nxZ (unpackM 3 (consA (setV 6) (consA (setV 9) (consA (setV 8) (nilA))))) (B_law_2) (ks.length + 1) [ks.map .ins, ks.map fun k => .lst (cv (R k)), ks.map fun k => pairV (R k)] ⟨[s, l1, l2, l3, l4, l5, l6, l7, l8, l9, l10], ins, L, N⟩ = some (.next, ⟨[s, l1, l2, l3, l4, l5, l6', l7, l8', l9', l10'], ins, L, N'⟩)
  | [], l6, l8, l9, l10, N, _ => ⟨l6, l8, l9, l10, N, forZ_end rfl⟩
  | k :: ks, l6, l8, l9, l10, N, h => by
    have hk := h k List.mem_cons_self
    have e1 := s21 (s := s) (l1 := l1) (l2 := l2) (l3 := l3) (l4 := l4) (l5 := l5) (l7 := l7) (l10 := l10) (ins := ins) (L := L) (k := k) (N := N) (hr k hk) (hl k hk)
    have e2 := s22 (s := s) (l1 := l1) (l2 := l2) (l3 := l3) (l4 := l4) (l5 := l5) (l7 := l7) (L := L) (N := N + 1) (hI k hk) (hl k hk) (hn k hk)
    have e3 : B_law_2 ⟨[s, l1, l2, l3, l4, l5, .ins k, l7, pairV (R k), .lst (cv (R k)), l10], ins, L, N⟩ = some (.next, ⟨[s, l1, l2, l3, l4, l5, .ins k, l7, pairV (R k), .lst (cv (R k)), .str ⟨(R k).toArray⟩], ins, L, N + 1⟩) := by
      rw [B_law_2, then_next e1, then_next e2]; rfl
    obtain ⟨l6', l8', l9', l10', N', e4⟩ := fin_all (s := s) (l1 := l1) (l2 := l2) (l3 := l3) (l4 := l4) (l5 := l5) (l7 := l7) (L := L) hI hr hl hn ks (.ins k) (pairV (R k)) (.lst (cv (R k))) (.str ⟨(R k).toArray⟩) (N + 1) fun j hj => h j (List.mem_cons_of_mem _ hj)
    refine ⟨l6', l8', l9', l10', N', ?_⟩
    rw [List.length_cons, forZ_next (ts := [ks.map .ins, ks.map fun k => .lst (cv (R k)), ks.map fun k => pairV (R k)]) (hs := [.ins k, .lst (cv (R k)), pairV (R k)]) (st1 := ⟨[s, l1, l2, l3, l4, l5, .ins k, l7, pairV (R k), .lst (cv (R k)), l10], ins, L, N⟩) rfl rfl e3]
    exact e4
noncomputable def RR (r0 r1 r2 : List Nat) : Nat → List Nat
  | 0 => r0
  | 1 => r1
  | _ => r2
theorem three {k : Nat} (h : k < 3) : k = 0 ∨ k = 1 ∨ k = 2 := by omega
noncomputable def rowsV (r0 r1 r2 : List Nat) : AV := .lst [.lst (cv r0), .lst (cv r1), .lst (cv r2)]
noncomputable def wrV (r0 r1 r2 : List Nat) : AV := .lst [pairV r0, pairV r1, pairV r2]
section
variable {s l4 l5 l6 l7 l8 l9 l10 : AV} {I : List Ins} {L : LH} {N : Nat} {r0 r1 r2 : List Nat}
theorem p7 (hI : ∀ k, k < 3 → I[k]? = some (srcI (RR r0 r1 r2 k) (RR r0 r1 r2 k))) (hr : ∀ k, k < 3 → ∀ x ∈ RR r0 r1 r2 k, x < 128) (hl : ∀ k, k < 3 → (RR r0 r1 r2 k).length ≤ 100) (hn : ∀ k, k < 3 → RR r0 r1 r2 k ≠ []) :
    ∃ (l6' l8' l9' l10' : AV) (N' : Nat), S1_7 ⟨[s, rowsV r0 r1 r2, wrV r0 r1 r2, .lst [.ins 0, .ins 1, .ins 2], l4, l5, l6, l7, l8, l9, l10], I, L, N⟩ = some (.next, ⟨[s, rowsV r0 r1 r2, wrV r0 r1 r2, .lst [.ins 0, .ins 1, .ins 2], l4, l5, l6', l7, l8', l9', l10'], I, L, N'⟩) := by
  obtain ⟨l6', l8', l9', l10', N', e⟩ := fin_all (s := s) (l1 := rowsV r0 r1 r2) (l2 := wrV r0 r1 r2) (l3 := .lst [.ins 0, .ins 1, .ins 2]) (l4 := l4) (l5 := l5) (l7 := l7) (L := L) hI hr hl hn [0, 1, 2, 0, 1, 2] l6 l8 l9 l10 N (by decide)
  refine ⟨l6', l8', l9', l10', N', ?_⟩
  have f1 : bd (consM (bin2 (var 3) (var 3) addM) (consM (bin2 (var 1) (var 1) addM) (consM (bin2 (var 2) (var 2) addM) (pu [])))) zipIt ⟨[s, rowsV r0 r1 r2, wrV r0 r1 r2, .lst [.ins 0, .ins 1, .ins 2], l4, l5, l6, l7, l8, l9, l10], I, L, N⟩ = some ([[0, 1, 2, 0, 1, 2].map .ins, [0, 1, 2, 0, 1, 2].map fun k => .lst (cv (RR r0 r1 r2 k)), [0, 1, 2, 0, 1, 2].map fun k => pairV (RR r0 r1 r2 k)], ⟨[s, rowsV r0 r1 r2, wrV r0 r1 r2, .lst [.ins 0, .ins 1, .ins 2], l4, l5, l6, l7, l8, l9, l10], I, L, N⟩) := rfl
  rw [S1_7, forM', bd_is f1]
  exact e
noncomputable def lnV : AV → AV
  | .lst xs => .int xs.length
  | v => v
theorem p6a (g0 : r0.length ≤ 100) (g1 : r1.length ≤ 100) (g2 : r2.length ≤ 100) : ∃ T : Nat, r0.length ≤ T ∧ r1.length ≤ T ∧ r2.length ≤ T ∧ T ≤ 101 ∧ bd (consM (bin2 (pu (.int 1)) (bd (consM (frzE (C_law_2)) (pu [])) maxM) addM) (pu [])) rangeM ⟨[s, rowsV r0 r1 r2, wrV r0 r1 r2, .lst [.ins 0, .ins 1, .ins 2], l4, l5, l6, l7, l8, l9, l10], I, L, N⟩ = some (rangeL 0 T, ⟨[s, rowsV r0 r1 r2, wrV r0 r1 r2, .lst [.ins 0, .ins 1, .ins 2], l4, l5, l6, l7, l8, l9, l10], I, L, N + 1⟩) := by
  have e1 : frzE C_law_2 ⟨[s, rowsV r0 r1 r2, wrV r0 r1 r2, .lst [.ins 0, .ins 1, .ins 2], l4, l5, l6, l7, l8, l9, l10], I, L, N⟩ = some (.lst [.int (r0.length : Int), .int (r1.length : Int), .int (r2.length : Int)], ⟨[s, rowsV r0 r1 r2, wrV r0 r1 r2, .lst [.ins 0, .ins 1, .ins 2], l4, l5, l6, l7, l8, l9, l10], I, L, N + 1⟩) := by
    have := frzE_is (f := C_law_2) (st := ⟨[s, rowsV r0 r1 r2, wrV r0 r1 r2, .lst [.ins 0, .ins 1, .ins 2], l4, l5, l6, l7, l8, l9, l10], I, L, N⟩) (st1 := ⟨[s, rowsV r0 r1 r2, wrV r0 r1 r2, .lst [.ins 0, .ins 1, .ins 2], l4, l5, l6, l7, l8, l9, l10], I, L, N + 1⟩) (compM_A (caps := []) (f := var 1) (ft := pu true) (fe := bd (consM (var 0) (pu [])) lenBM) (st := ⟨[s, rowsV r0 r1 r2, wrV r0 r1 r2, .lst [.ins 0, .ins 1, .ins 2], l4, l5, l6, l7, l8, l9, l10], I, L, N⟩) (X := rowsV r0 r1 r2) (zs := [.lst (cv r0), .lst (cv r1), .lst (cv r2)]) (fun _ => true) lnV rfl (by simp only [List.length_cons, List.length_nil]; omega) (fun _ _ => rfl) (fun _ _ => rfl) (fun _ _ _ => rfl) (fun x hx _ ys => by
      obtain ⟨r, hr, rfl⟩ : ∃ r : List Nat, r.length ≤ 100 ∧ x = .lst (cv r) := by
        simp only [List.mem_cons, List.not_mem_nil, or_false] at hx
        rcases hx with rfl | rfl | rfl
        · exact ⟨_, g0, rfl⟩
        · exact ⟨_, g1, rfl⟩
        · exact ⟨_, g2, rfl⟩
      simp only [bd, consM, var_eq, List.getElem?_cons_zero, u_lst, Bool.false_eq_true, if_false, pu, lenBM, lenM, itemsM, cv_len, show r.length ≤ 100000 by omega, if_true, lnV]))
    refine this.trans ?_
    simp only [List.filter_cons, List.filter_nil, if_true, List.map_cons, List.map_nil, lnV, cv_len]
  refine ⟨(1 + max (max (r0.length : Int) r1.length) r2.length).toNat, by omega, by omega, by omega, by omega, ?_⟩
  generalize frzE C_law_2 = FC at e1 ⊢
  simp only [bd, consM, bin2, pu, e1, maxM, itemsM, intsOf, maxI, List.foldl_cons, List.foldl_nil, addM, rangeM]
  rw [if_pos (by omega)]
  rfl
theorem p8 {ans : List AV} {l1 l2 l3 : AV} {A : Nat} (hl : ans.length ≤ 10000) (hn : ∀ v ∈ ans, v = .none) : S1_8 ⟨[s, l1, l2, l3, .lob A, l5, l6, l7, l8, l9, l10], I, [[(A, ans)]], N⟩ = some (.ret (.bool true), ⟨[s, l1, l2, l3, .lob A, l5, l6, l7, l8, l9, l10], I, [[(A, ans)]], N⟩) := by
  have key := eqAll_nones ⟨[s, l1, l2, l3, .lob A, l5, l6, l7, l8, l9, l10], I, [[(A, ans)]], N⟩ ans hn
  simp [S1_8, retM, boolV, cmp2, bd, var_eq, u_lob, bin2, consM, pu, lstM, lenBM, lenM, itemsM, getL1, lookL, mulM, mulLM, show ans.length ≤ 100000 by omega, show (ans.length : Int) ≤ 100000 by omega, eqM, eqF, key]
end
--@@
theorem comp_step {fe : Cm AV} {K m M M' : Nat} {x v u : AV} {xs cs ys : List AV} {I : List Ins} {L : LH} (h : fe ⟨x :: cs, I, [(K, ys)] :: L, M⟩ = some (v, ⟨x :: cs, I, [(K, ys)] :: L, M'⟩)) (hy : ys.length ≤ 1000) : compG nxL (setV 0) (pu true) fe K (m + 1) (x :: xs) ⟨u :: cs, I, [(K, ys)] :: L, M⟩ = compG nxL (setV 0) (pu true) fe K m xs ⟨x :: cs, I, [(K, ys ++ [v])] :: L, M'⟩ := by
  rw [compG_next (i := x :: xs) (i' := xs) (x := x) rfl, bd_is (st1 := ⟨x :: cs, I, [(K, ys)] :: L, M⟩) (a := ()) rfl, bd_is (st1 := ⟨x :: cs, I, [(K, ys)] :: L, M⟩) (a := true) rfl, if_pos rfl, bd_is h, bd_is (st1 := ⟨x :: cs, I, [(K, ys ++ [v])] :: L, M'⟩) (a := .none) (by simp [appendM, getL1, lookL, putL1, putSeg, show ys.length ≤ 100000 by omega])]
theorem comp_stepA {fe : Cm AV} {K m M M' i : Nat} {x v u : AV} {zs cs ys : List AV} {I : List Ins} {L : LH} (hx : zs[i]? = some x) (h : fe ⟨x :: cs, I, [(K, ys)] :: L, M⟩ = some (v, ⟨x :: cs, I, [(K, ys)] :: L, M'⟩)) (hy : ys.length ≤ 1000) : compG nxA (setV 0) (pu true) fe K (m + 1) (.lst zs, i) ⟨u :: cs, I, [(K, ys)] :: L, M⟩ = compG nxA (setV 0) (pu true) fe K m (.lst zs, i + 1) ⟨x :: cs, I, [(K, ys ++ [v])] :: L, M'⟩ := by
  rw [compG_next (i := (AV.lst zs, i)) (i' := (AV.lst zs, i + 1)) (x := x) (by simp only [nxA, itemsM, hx]), bd_is (st1 := ⟨x :: cs, I, [(K, ys)] :: L, M⟩) (a := ()) rfl, bd_is (st1 := ⟨x :: cs, I, [(K, ys)] :: L, M⟩) (a := true) rfl, if_pos rfl, bd_is h, bd_is (st1 := ⟨x :: cs, I, [(K, ys ++ [v])] :: L, M'⟩) (a := .none) (by simp [appendM, getL1, lookL, putL1, putSeg, show ys.length ≤ 100000 by omega])]
noncomputable def rowK (k : Nat) (ms : List Int) : List Nat := (ms.filter fun i => i % 3 == (k : Int)).map fun i => (i / 3 % 128).toNat
theorem rowK_lt (k : Nat) (ms : List Int) : ∀ c ∈ rowK k ms, c < 128 := by
  intro c hc
  obtain ⟨i, _, rfl⟩ := List.mem_map.mp hc
  omega
theorem rowK_len (k : Nat) (ms : List Int) : (rowK k ms).length ≤ ms.length := by
  unfold rowK
  rw [List.length_map]
  exact List.length_filter_le _ _
noncomputable def pK (k : Nat) : AV → Bool
  | .int i => i % 3 == (k : Int)
  | _ => false
noncomputable def vK : AV → AV
  | .int i => .int (i / 3 % 128)
  | v => v
theorem rowK_is (k : Nat) : ∀ ms : List Int, ((ms.map AV.int).filter (pK k)).map vK = cv (rowK k ms)
  | [] => rfl
  | i :: ms => by
    have ih := rowK_is k ms
    rw [List.map_cons, List.filter_cons, rowK, List.filter_cons]
    by_cases q : (i % 3 == (k : Int)) = true
    · have q' : pK k (.int i) = true := q
      rw [if_pos q, if_pos q', List.map_cons, List.map_cons, ih]
      have : ((i / 3 % 128).toNat : Int) = i / 3 % 128 := by omega
      simp only [cv, List.map_cons, vK, this, rowK]
    · have q' : ¬ pK k (.int i) = true := q
      rw [if_neg q, if_neg q', ih]
      rfl
section
variable {s : AV} {ns ms : List Int} {I : List Ins}
theorem inner (hs : s = .lsb (ns.map .int)) (hm : ms = [12, 0, 3, 37, 28, 25, 17] ++ ns) (h : ns.length ≤ 63) (k : Nat) (ys : List AV) (M : Nat) : frzE C_law_4 ⟨[.int (k : Int), s], I, [(0, ys)] :: [[]], M⟩ = some (.lst (cv (rowK k ms)), ⟨[.int (k : Int), s], I, [(0, ys)] :: [[]], M + 1⟩) := by
  have hl : ms.length ≤ 70 := by rw [hm, List.length_append]; simp only [List.length_cons, List.length_nil]; omega
  have := frz_comp (caps := [0]) (f := bd (bin2 (bd (consM (pu (.int 12)) (consM (pu (.int 0)) (consM (pu (.int 3)) (consM (pu (.int 37)) (consM (pu (.int 28)) (consM (pu (.int 25)) (consM (pu (.int 17)) (pu [])))))))) lstM) (var 1) addM) lstIt) (ft := cmp2 (bin2 (var 0) (pu (.int 3)) modM) (var 1) eqM) (fe := bin2 (bin2 (var 0) (pu (.int 3)) divM) (pu (.int 128)) modM) (st := ⟨[.int (k : Int), s], I, [(0, ys)] :: [[]], M⟩) (xs := ms.map .int) (pK k) vK (by
      subst hs hm
      simp [thenM, asgM, retM, dropM, iteM, bd, consM, methM, lmethM, chkL, var_eq, pu, no, lstM, tupM, newM, newLob, blank, setV, u_none, u_bool, u_int, u_str, u_bytes, u_ins, u_lob, u_lst, u_lsb, u_tup, bin2, cmp2, boolV, orM, notM, truthM, addM, subM, modM, divM, addLM, mulLM, itemsM, items2M, lenM, getItemM, idxM, appendM, extendM, getL1, putL1, lookL, putSeg, pushL1, unpackM, consA, nilA, swapM, frzV, frz0, lstIt, show 7 + ns.length ≤ 100000 by omega]) (by simp; omega) (fun x hx zs => by
      obtain ⟨i, _, rfl⟩ := List.mem_map.mp hx
      simp [thenM, asgM, retM, dropM, iteM, bd, consM, methM, lmethM, chkL, var_eq, pu, no, lstM, tupM, newM, newLob, blank, setV, u_none, u_bool, u_int, u_str, u_bytes, u_ins, u_lob, u_lst, u_lsb, u_tup, bin2, cmp2, boolV, orM, notM, truthM, addM, subM, modM, divM, addLM, mulLM, itemsM, items2M, lenM, getItemM, idxM, appendM, extendM, getL1, putL1, lookL, putSeg, pushL1, unpackM, consA, nilA, swapM, frzV, frz0, capsL, eqM, eqF, pK]) (fun x hx _ zs => by
      obtain ⟨i, _, rfl⟩ := List.mem_map.mp hx
      simp [thenM, asgM, retM, dropM, iteM, bd, consM, methM, lmethM, chkL, var_eq, pu, no, lstM, tupM, newM, newLob, blank, setV, u_none, u_bool, u_int, u_str, u_bytes, u_ins, u_lob, u_lst, u_lsb, u_tup, bin2, cmp2, boolV, orM, notM, truthM, addM, subM, modM, divM, addLM, mulLM, itemsM, items2M, lenM, getItemM, idxM, appendM, extendM, getL1, putL1, lookL, putSeg, pushL1, unpackM, consA, nilA, swapM, frzV, frz0, capsL, vK])
  rw [rowK_is] at this
  exact this
theorem p1 (hs : s = .lsb (ns.map .int)) (hm : ms = [12, 0, 3, 37, 28, 25, 17] ++ ns) (h : ns.length ≤ 63) : S1_1 ⟨[s, .unb, .unb, .unb, .unb, .unb, .unb, .unb, .unb, .unb, .unb], [], [[]], 0⟩ = some (.next, ⟨[s, rowsV (rowK 0 ms) (rowK 1 ms) (rowK 2 ms), .unb, .unb, .unb, .unb, .unb, .unb, .unb, .unb, .unb], [], [[]], 4⟩) := by
  have a0 := inner (I := []) hs hm h 0 [] 1
  have a1 := inner (I := []) hs hm h 1 [.lst (cv (rowK 0 ms))] 2
  have a2 := inner (I := []) hs hm h 2 [.lst (cv (rowK 0 ms)), .lst (cv (rowK 1 ms))] 3
  have e1 : C_law_5 ⟨[s, .unb, .unb, .unb, .unb, .unb, .unb, .unb, .unb, .unb, .unb], [], [] :: [[]], 0⟩ = some (.lob 0, ⟨[s, .unb, .unb, .unb, .unb, .unb, .unb, .unb, .unb, .unb, .unb], [], [(0, [.lst (cv (rowK 0 ms)), .lst (cv (rowK 1 ms)), .lst (cv (rowK 2 ms))])] :: [[]], 4⟩) := by
    unfold C_law_5
    generalize frzE C_law_4 = FC at a0 a1 a2 ⊢
    have f1 : bd (consM (pu (.int 3)) (pu [])) rangeM ⟨[s, .unb, .unb, .unb, .unb, .unb, .unb, .unb, .unb, .unb, .unb], [], [] :: [[]], 0⟩ = some ([.int ((0 : Nat) : Int), .int ((1 : Nat) : Int), .int ((2 : Nat) : Int)], ⟨[s, .unb, .unb, .unb, .unb, .unb, .unb, .unb, .unb, .unb, .unb], [], [] :: [[]], 0⟩) := rfl
    rw [compM, bd_is f1]
    show (match compG nxL (setV 0) (pu true) FC 0 (3 + 1) [.int ((0 : Nat) : Int), .int ((1 : Nat) : Int), .int ((2 : Nat) : Int)] ⟨[.unb, s], [], [(0, [])] :: [[]], 1⟩ with | some (_, st') => some (AV.lob 0, { st' with loc := [s, .unb, .unb, .unb, .unb, .unb, .unb, .unb, .unb, .unb, .unb] }) | .none => .none) = _
    rw [comp_step a0 (by simp), List.nil_append, comp_step a1 (by simp), List.cons_append, List.nil_append, comp_step a2 (by simp)]
    rfl
  unfold S1_1
  generalize C_law_5 = FC at e1 ⊢
  simp only [frzS, asgM, bd, e1, setV]
  rfl
end
theorem p2 {s : AV} {r0 r1 r2 : List Nat} (h0 : ∀ x ∈ r0, x < 128) (h1 : ∀ x ∈ r1, x < 128) (h2 : ∀ x ∈ r2, x < 128) (g0 : r0.length ≤ 100) (g1 : r1.length ≤ 100) (g2 : r2.length ≤ 100) : S1_2 ⟨[s, rowsV r0 r1 r2, .unb, .unb, .unb, .unb, .unb, .unb, .unb, .unb, .unb], [], [[]], 4⟩ = some (.next, ⟨[s, rowsV r0 r1 r2, wrV r0 r1 r2, .unb, .unb, .unb, .unb, .unb, .unb, .unb, .unb], [], [[]], 8⟩) := by
  have b : ∀ (r : List Nat) (ys : List AV) (M : Nat), (∀ x ∈ r, x < 128) → r.length ≤ 100 → bd (consM (var 0) (pu [])) (callM F_law_written) ⟨[.lst (cv r)], [], [(4, ys)] :: [[]], M⟩ = some (pairV r, ⟨[.lst (cv r)], [], [(4, ys)] :: [[]], M + 1⟩) := fun r ys M hr hl => by
    rw [bd_is (a := [.lst (cv r)]) (st1 := ⟨[.lst (cv r)], [], [(4, ys)] :: [[]], M⟩) rfl]
    exact written_is r hr hl _ _ _ _
  have a0 := b r0 [] 5 h0 g0
  have a1 := b r1 [pairV r0] 6 h1 g1
  have a2 := b r2 [pairV r0, pairV r1] 7 h2 g2
  have e1 : C_law_3 ⟨[s, rowsV r0 r1 r2, .unb, .unb, .unb, .unb, .unb, .unb, .unb, .unb, .unb], [], [] :: [[]], 4⟩ = some (.lob 4, ⟨[s, rowsV r0 r1 r2, .unb, .unb, .unb, .unb, .unb, .unb, .unb, .unb, .unb], [], [(4, [pairV r0, pairV r1, pairV r2])] :: [[]], 8⟩) := by
    unfold C_law_3
    generalize bd (consM (var 0) (pu [])) (callM F_law_written) = FC at a0 a1 a2 ⊢
    have f1 : bd (var 1) anyIt ⟨[s, rowsV r0 r1 r2, .unb, .unb, .unb, .unb, .unb, .unb, .unb, .unb, .unb], [], [] :: [[]], 4⟩ = some ((.lst [.lst (cv r0), .lst (cv r1), .lst (cv r2)], 0), ⟨[s, rowsV r0 r1 r2, .unb, .unb, .unb, .unb, .unb, .unb, .unb, .unb, .unb], [], [] :: [[]], 4⟩) := rfl
    rw [compM, bd_is f1]
    show (match compG nxA (setV 0) (pu true) FC 4 (3 + 1) (.lst [.lst (cv r0), .lst (cv r1), .lst (cv r2)], 0) ⟨[.unb], [], [(4, [])] :: [[]], 5⟩ with | some (_, st') => some (AV.lob 4, { st' with loc := [s, rowsV r0 r1 r2, .unb, .unb, .unb, .unb, .unb, .unb, .unb, .unb, .unb] }) | .none => .none) = _
    rw [comp_stepA rfl a0 (by simp), List.nil_append, comp_stepA rfl a1 (by simp), List.cons_append, List.nil_append, comp_stepA rfl a2 (by simp)]
    rfl
  unfold S1_2
  generalize C_law_3 = FC at e1 ⊢
  simp only [frzS, asgM, bd, e1, setV]
  rfl
theorem p35 (s : AV) (a0 a1 a2 r0 r1 r2 : List Nat) : ∀ g : Cm AF, thenM S1_3 (thenM S1_4 (thenM S1_5 g)) ⟨[s, rowsV a0 a1 a2, wrV r0 r1 r2, .unb, .unb, .unb, .unb, .unb, .unb, .unb, .unb], [], [[]], 8⟩ = g ⟨[s, rowsV a0 a1 a2, wrV r0 r1 r2, .lst [.ins 0, .ins 1, .ins 2], .lob 8, .unb, .ins 2, .str "e", pairV r2, .unb, .unb], [srcI r0 [], srcI r1 [], srcI r2 []], [[(8, List.replicate 9 .none)]], 9⟩ := by
  intro g
  kernel_rfl
--@@
theorem plain (ns : List Int) (h : ns.length ≤ 63) : ∃ st', B_law ⟨.lsb (ns.map .int) :: List.replicate 10 .unb, [], [[]], 0⟩ = some (.ret (.bool true), st') := by
  have hu : List.replicate 10 AV.unb = [.unb, .unb, .unb, .unb, .unb, .unb, .unb, .unb, .unb, .unb] := rfl
  rw [hu]
  obtain ⟨s, hs⟩ : ∃ s, s = AV.lsb (ns.map .int) := ⟨_, rfl⟩
  obtain ⟨ms, hms⟩ : ∃ ms : List Int, ms = [12, 0, 3, 37, 28, 25, 17] ++ ns := ⟨_, rfl⟩
  have hl : ms.length ≤ 70 := by rw [hms, List.length_append]; simp only [List.length_cons, List.length_nil]; omega
  rw [← hs]
  have e1 := p1 hs hms h
  have n0 : rowK 0 ms ≠ [] := by rw [hms]; simp [rowK]
  have n1 : rowK 1 ms ≠ [] := by rw [hms]; simp [rowK]
  have n2 : rowK 2 ms ≠ [] := by rw [hms]; simp [rowK]
  have h0 := rowK_lt 0 ms
  have h1 := rowK_lt 1 ms
  have h2 := rowK_lt 2 ms
  have g0 := rowK_len 0 ms
  have g1 := rowK_len 1 ms
  have g2 := rowK_len 2 ms
  generalize rowK 0 ms = r0 at e1 n0 h0 g0
  generalize rowK 1 ms = r1 at e1 n1 h1 g1
  generalize rowK 2 ms = r2 at e1 n2 h2 g2
  have e2 := p2 (s := s) h0 h1 h2 (by omega) (by omega) (by omega)
  have e3 := p35 s r0 r1 r2 r0 r1 r2
  obtain ⟨T, t0, t1, t2, t3, e4⟩ := p6a (s := s) (l4 := .lob 8) (l5 := .unb) (l6 := .ins 2) (l7 := .str "e") (l8 := pairV r2) (l9 := .unb) (l10 := .unb) (I := [srcI r0 [], srcI r1 [], srcI r2 []]) (L := [[(8, List.replicate 9 .none)]]) (N := 9) (r0 := r0) (r1 := r1) (r2 := r2) (by omega) (by omega) (by omega)
  obtain ⟨l5', l6', m', N', k5, e5⟩ := turns (s := s) (l1 := rowsV r0 r1 r2) (l2 := wrV r0 r1 r2) (l7 := .str "e") (l8 := pairV r2) (l9 := .unb) (l10 := .unb) (A := 8) h0 h1 h2 (by omega) (by omega) (by omega) (rangeL 0 T) .unb (.ins 2) 0 9 10 (by rw [rangeL_len]; omega)
  rw [rangeL_len] at k5
  have e6 : S1_6 _ = _ := forL_is e4 e5
  rw [rangeL_len, Nat.zero_add, List.take_of_length_le t0, List.take_of_length_le t1, List.take_of_length_le t2] at e6
  obtain ⟨l6'', l8'', l9'', l10'', N'', e7⟩ := p7 (s := s) (l4 := .lob 8) (l5 := l5') (l6 := l6') (l7 := .str "e") (l8 := pairV r2) (l9 := .unb) (l10 := .unb) (I := [srcI r0 r0, srcI r1 r1, srcI r2 r2]) (L := [[(8, List.replicate m' .none)]]) (N := N') (r0 := r0) (r1 := r1) (r2 := r2)
    (fun k hk => by rcases three hk with rfl | rfl | rfl <;> rfl) (fun k hk => by rcases three hk with rfl | rfl | rfl <;> assumption) (fun k hk => by rcases three hk with rfl | rfl | rfl <;> simp only [RR] <;> omega) (fun k hk => by rcases three hk with rfl | rfl | rfl <;> assumption)
  have e8 := p8 (s := s) (l1 := rowsV r0 r1 r2) (l2 := wrV r0 r1 r2) (l3 := .lst [.ins 0, .ins 1, .ins 2]) (l5 := l5') (l6 := l6'') (l7 := .str "e") (l8 := l8'') (l9 := l9'') (l10 := l10'') (I := [srcI r0 r0, srcI r1 r1, srcI r2 r2]) (N := N'') (A := 8) (ans := List.replicate m' .none) (by simp; omega) (fun v hv => (List.mem_replicate.mp hv).2)
  exact ⟨_, by rw [B_law, then_next e1, then_next e2, e3, then_next e6, then_next e7, then_ret e8]⟩

end Mine
set_option maxRecDepth 100000 in
set_option maxHeartbeats 8000000 in
theorem PySem.Challenge.cw_dn0304_03_holds : PySem.Challenge.rw_dn0304_03.Holds :=
  hd03 (by
  k_go0
  have KX := ‹(hd03.heap_39 _).In _›
  have T := ‹Top _ _ _ _ _ _›
  have F := ‹Fr _ _ _ _›
  have hL := ‹Heap.IsList _ _ _›
  have hI := ‹IntsAre _ _›
  have hB := T.builtins
  have G : Mine.Gd (Mine.cx _ _ _ _) := ⟨KX, T.g, T.b, T.nolimit⟩
  have NN := ‹News _ _ _ _›
  have XX := ‹CellsAre _ _ _›
  refine Mine.law_okC (n := 12) (x := "script") (others := ["rows", "written", "sources", "answers", "turn", "source", "begun", "pair", "row", "text"]) (f := Mine.B_law) G ?hS (by decide) rfl (by decide +kernel) (by decide +kernel) F NN XX (fun h => by first | rfl | exact absurd h (by decide +kernel)) (fun h => by first | rfl | exact absurd h (by decide +kernel)) hL hI (Mine.plain _ (by omega)) (fun s' k1 k2 k3 => ?_)
  case hS =>
    open Mine in
    refine ImplS.cons ?_ ?_
    · refine ImplS1.frz ?_
      refine ImplS1.assignComp2 (i := 1) (tv := ["k"]) (cp := ["script"]) (caps := [0]) (size := sizeL) (gt := goesT) (Comp2Is.of rfl (by decide +kernel)) ?_ ?_ ?_ ?_ rfl rfl
      · refine ImplI.range G rfl (g_range G hB) ?_
        refine ImplEs.cons ?_ ?_
        · exact ImplE.cint
        exact ImplEs.nil
      · exact ImplA.name (i := 0) rfl rfl
      · exact ImplC.nil
      refine ImplE.frz ?_
      refine ImplE.comp2 (tv := ["x"]) (cp := ["k"]) (caps := [0]) (size := sizeL) (gt := goesT) (Comp2Is.of rfl (by decide +kernel)) ?_ ?_ ?_ ?_
      · refine ImplI.list ?_
        refine ImplE.bin ?_ ?_ add_ok
        · refine ImplE.list ?_
          refine ImplEs.cons ?_ ?_
          · exact ImplE.cint
          refine ImplEs.cons ?_ ?_
          · exact ImplE.cint
          refine ImplEs.cons ?_ ?_
          · exact ImplE.cint
          refine ImplEs.cons ?_ ?_
          · exact ImplE.cint
          refine ImplEs.cons ?_ ?_
          · exact ImplE.cint
          refine ImplEs.cons ?_ ?_
          · exact ImplE.cint
          refine ImplEs.cons ?_ ?_
          · exact ImplE.cint
          exact ImplEs.nil
        exact ImplE.name (i := 1) rfl (by decide +kernel)
      · exact ImplA.name (i := 0) rfl rfl
      · refine ImplC.one ?_
        refine ImplT.cmp ?_ ?_ eq_ok
        · refine ImplE.bin ?_ ?_ mod_ok
          · exact ImplE.name (i := 0) rfl (by decide +kernel)
          exact ImplE.cint
        exact ImplE.name (i := 1) rfl (by decide +kernel)
      refine ImplE.bin ?_ ?_ mod_ok
      · refine ImplE.bin ?_ ?_ div_ok
        · exact ImplE.name (i := 0) rfl (by decide +kernel)
        exact ImplE.cint
      exact ImplE.cint
    refine ImplS.cons ?_ ?_
    · refine ImplS1.frz ?_
      refine ImplS1.assignComp2 (i := 2) (tv := ["row"]) (cp := []) (caps := []) (size := sizeA) (gt := goesT) (Comp2Is.of rfl (by decide +kernel)) ?_ ?_ ?_ ?_ rfl rfl
      · refine ImplI.any ?_
        exact ImplE.name (i := 1) rfl (by decide +kernel)
      · exact ImplA.name (i := 0) rfl rfl
      · exact ImplC.nil
      refine ImplE.callFn G rfl (g_law_written G) r_law_written ?_ (k_law_written G hB)
      refine ImplEs.cons ?_ ?_
      · exact ImplE.name (i := 0) rfl (by decide +kernel)
      exact ImplEs.nil
    refine ImplS.cons ?_ ?_
    · refine ImplS1.assign ?_ ?_
      · refine ImplE.list ?_
        refine ImplEs.cons ?_ ?_
        · refine e_new G rfl ?_
          refine ImplEs.cons ?_ ?_
          · exact ImplE.cstr
          exact ImplEs.nil
        refine ImplEs.cons ?_ ?_
        · refine e_new G rfl ?_
          exact ImplEs.nil
        refine ImplEs.cons ?_ ?_
        · refine e_new G rfl ?_
          refine ImplEs.cons ?_ ?_
          · exact ImplE.cstr
          exact ImplEs.nil
        exact ImplEs.nil
      exact ImplA.name (i := 3) rfl rfl
    refine ImplS.cons ?_ ?_
    · refine ImplS1.assign ?_ ?_
      · refine ImplE.listMut ?_
        exact ImplEs.nil
      exact ImplA.name (i := 4) rfl rfl
    refine ImplS.cons ?_ ?_
    · refine ImplS1.for (size := sizeZ) (gt := goesU) ?_ ?_ ?_
      · refine ImplI.zip G rfl (g_zip G hB) ?_
        refine ImplEs.cons ?_ ?_
        · exact ImplE.name (i := 3) rfl (by decide +kernel)
        refine ImplEs.cons ?_ ?_
        · refine ImplE.list ?_
          refine ImplEs.cons ?_ ?_
          · exact ImplE.cstr
          refine ImplEs.cons ?_ ?_
          · exact ImplE.cnone
          refine ImplEs.cons ?_ ?_
          · exact ImplE.cstr
          exact ImplEs.nil
        refine ImplEs.cons ?_ ?_
        · exact ImplE.name (i := 2) rfl (by decide +kernel)
        exact ImplEs.nil
      · refine ImplA.tuple ?_
        refine ImplAs.cons ?_ ?_
        · exact ImplA.name (i := 6) rfl rfl
        refine ImplAs.cons ?_ ?_
        · exact ImplA.name (i := 7) rfl rfl
        refine ImplAs.cons ?_ ?_
        · exact ImplA.name (i := 8) rfl rfl
        exact ImplAs.nil
      refine ImplS.cons ?_ ?_
      · refine ImplS1.ite ?_ ?_ ?_
        · refine ImplT.bool ?_
          refine ImplTs.or ?_ ?_
          · refine ImplT.cmp ?_ ?_ ne_ok
            · refine ImplE.callFn G rfl (g_law_told G) r_law_told ?_ (k_law_told G hB)
              refine ImplEs.cons ?_ ?_
              · exact ImplE.name (i := 6) rfl (by decide +kernel)
              exact ImplEs.nil
            refine ImplE.list ?_
            refine ImplEs.cons ?_ ?_
            · exact ImplE.name (i := 7) rfl (by decide +kernel)
            refine ImplEs.cons ?_ ?_
            · exact ImplE.cnone
            refine ImplEs.cons ?_ ?_
            · exact ImplE.cnone
            refine ImplEs.cons ?_ ?_
            · exact ImplE.cnone
            refine ImplEs.cons ?_ ?_
            · exact ImplE.cnone
            exact ImplEs.nil
          refine ImplTs.or ?_ ?_
          · refine ImplT.not ?_
            refine ImplT.value ?_
            refine ImplE.callFn G rfl (g_law_washed G) r_law_washed ?_ (k_law_washed G hB)
            refine ImplEs.cons ?_ ?_
            · exact ImplE.name (i := 6) rfl (by decide +kernel)
            exact ImplEs.nil
          exact ImplTs.orNil
        · refine ImplS.cons ?_ ?_
          · refine ImplS1.ret ?_
            exact ImplE.cbool
          exact ImplS.nil
        exact ImplS.nil
      refine ImplS.cons ?_ ?_
      · refine ImplS1.expr ?_
        refine ImplE.lmeth PySem.F.slot_list_extend rfl ?_ ?_ extend_ok
        · exact ImplE.name (i := 4) rfl (by decide +kernel)
        refine ImplEs.cons ?_ ?_
        · refine ImplE.list ?_
          refine ImplEs.cons ?_ ?_
          · refine ImplE.meth G cls m_setByteStream ?_ ?_ (f_setByteStream G)
            · exact ImplE.name (i := 6) rfl (by decide +kernel)
            refine ImplEs.cons ?_ ?_
            · refine ImplE.item2 ?_ ?_
              · exact ImplE.name (i := 8) rfl (by decide +kernel)
              exact ImplE.cint
            exact ImplEs.nil
          refine ImplEs.cons ?_ ?_
          · refine ImplE.meth G cls m_setCharacterStream ?_ ?_ (f_setCharacterStream G)
            · exact ImplE.name (i := 6) rfl (by decide +kernel)
            refine ImplEs.cons ?_ ?_
            · exact ImplE.cstr
            exact ImplEs.nil
          refine ImplEs.cons ?_ ?_
          · refine ImplE.meth G cls m_setPublicId ?_ ?_ (f_setPublicId G)
            · exact ImplE.name (i := 6) rfl (by decide +kernel)
            refine ImplEs.cons ?_ ?_
            · exact ImplE.cint
            exact ImplEs.nil
          exact ImplEs.nil
        exact ImplEs.nil
      exact ImplS.nil
    refine ImplS.cons ?_ ?_
    · refine ImplS1.for (size := sizeL) (gt := goesT) ?_ ?_ ?_
      · refine ImplI.range G rfl (g_range G hB) ?_
        refine ImplEs.cons ?_ ?_
        · refine ImplE.bin ?_ ?_ add_ok
          · exact ImplE.cint
          refine ImplE.callB G rfl (g_max G hB) ?_ max_ok
          refine ImplEs.cons ?_ ?_
          · refine ImplE.frz ?_
            refine ImplE.comp2 (tv := ["row"]) (cp := []) (caps := []) (size := sizeA) (gt := goesT) (Comp2Is.of rfl (by decide +kernel)) ?_ ?_ ?_ ?_
            · refine ImplI.any ?_
              exact ImplE.name (i := 1) rfl (by decide +kernel)
            · exact ImplA.name (i := 0) rfl rfl
            · exact ImplC.nil
            refine ImplE.callB G rfl (g_len G hB) ?_ lenB_ok
            refine ImplEs.cons ?_ ?_
            · exact ImplE.name (i := 0) rfl (by decide +kernel)
            exact ImplEs.nil
          exact ImplEs.nil
        exact ImplEs.nil
      · exact ImplA.name (i := 5) rfl rfl
      refine ImplS.cons ?_ ?_
      · refine ImplS1.for (size := sizeA) (gt := goesT) ?_ ?_ ?_
        · refine ImplI.any ?_
          exact ImplE.name (i := 3) rfl (by decide +kernel)
        · exact ImplA.name (i := 6) rfl rfl
        refine ImplS.cons ?_ ?_
        · refine ImplS1.expr ?_
          refine ImplE.lmeth PySem.F.slot_list_extend rfl ?_ ?_ extend_ok
          · exact ImplE.name (i := 4) rfl (by decide +kernel)
          refine ImplEs.cons ?_ ?_
          · refine ImplE.callFn G rfl (g_law_read G) r_law_read ?_ (k_law_read G hB)
            refine ImplEs.cons ?_ ?_
            · exact ImplE.name (i := 6) rfl (by decide +kernel)
            exact ImplEs.nil
          exact ImplEs.nil
        exact ImplS.nil
      exact ImplS.nil
    refine ImplS.cons ?_ ?_
    · refine ImplS1.for (size := sizeZ) (gt := goesU) ?_ ?_ ?_
      · refine ImplI.zip G rfl (g_zip G hB) ?_
        refine ImplEs.cons ?_ ?_
        · refine ImplE.bin ?_ ?_ add_ok
          · exact ImplE.name (i := 3) rfl (by decide +kernel)
          exact ImplE.name (i := 3) rfl (by decide +kernel)
        refine ImplEs.cons ?_ ?_
        · refine ImplE.bin ?_ ?_ add_ok
          · exact ImplE.name (i := 1) rfl (by decide +kernel)
          exact ImplE.name (i := 1) rfl (by decide +kernel)
        refine ImplEs.cons ?_ ?_
        · refine ImplE.bin ?_ ?_ add_ok
          · exact ImplE.name (i := 2) rfl (by decide +kernel)
          exact ImplE.name (i := 2) rfl (by decide +kernel)
        exact ImplEs.nil
      · refine ImplA.tuple ?_
        refine ImplAs.cons ?_ ?_
        · exact ImplA.name (i := 6) rfl rfl
        refine ImplAs.cons ?_ ?_
        · exact ImplA.name (i := 9) rfl rfl
        refine ImplAs.cons ?_ ?_
        · exact ImplA.name (i := 8) rfl rfl
        exact ImplAs.nil
      refine ImplS.cons ?_ ?_
      · refine ImplS1.assign ?_ ?_
        · refine ImplE.join ?_ ?_
          · exact ImplE.cstr
          refine ImplEs.cons ?_ ?_
          · refine ImplE.frz ?_
            refine ImplE.comp2 (tv := ["code"]) (cp := []) (caps := []) (size := sizeA) (gt := goesT) (Comp2Is.of rfl (by decide +kernel)) ?_ ?_ ?_ ?_
            · refine ImplI.any ?_
              exact ImplE.name (i := 9) rfl (by decide +kernel)
            · exact ImplA.name (i := 0) rfl rfl
            · exact ImplC.nil
            refine ImplE.callB G rfl (g_chr G hB) ?_ chr_ok
            refine ImplEs.cons ?_ ?_
            · exact ImplE.name (i := 0) rfl (by decide +kernel)
            exact ImplEs.nil
          exact ImplEs.nil
        exact ImplA.name (i := 10) rfl rfl
      refine ImplS.cons ?_ ?_
      · refine ImplS1.ite ?_ ?_ ?_
        · refine ImplT.cmp ?_ ?_ ne_ok
          · refine ImplE.callFn G rfl (g_law_told G) r_law_told ?_ (k_law_told G hB)
            refine ImplEs.cons ?_ ?_
            · exact ImplE.name (i := 6) rfl (by decide +kernel)
            exact ImplEs.nil
          refine ImplE.list ?_
          refine ImplEs.cons ?_ ?_
          · refine ImplE.item2 ?_ ?_
            · exact ImplE.name (i := 10) rfl (by decide +kernel)
            refine ImplE.neg ?_
            exact ImplE.cint
          refine ImplEs.cons ?_ ?_
          · refine ImplE.callB G rfl (g_len G hB) ?_ lenB_ok
            refine ImplEs.cons ?_ ?_
            · refine ImplE.item2 ?_ ?_
              · exact ImplE.name (i := 8) rfl (by decide +kernel)
              exact ImplE.cint
            exact ImplEs.nil
          refine ImplEs.cons ?_ ?_
          · refine ImplE.item2 ?_ ?_
            · exact ImplE.name (i := 8) rfl (by decide +kernel)
            exact ImplE.cint
          refine ImplEs.cons ?_ ?_
          · refine ImplE.item2 ?_ ?_
            · exact ImplE.name (i := 8) rfl (by decide +kernel)
            exact ImplE.cint
          refine ImplEs.cons ?_ ?_
          · exact ImplE.name (i := 10) rfl (by decide +kernel)
          exact ImplEs.nil
        · refine ImplS.cons ?_ ?_
          · refine ImplS1.ret ?_
            exact ImplE.cbool
          exact ImplS.nil
        exact ImplS.nil
      exact ImplS.nil
    refine ImplS.cons ?_ ?_
    · refine ImplS1.ret ?_
      refine ImplE.cmp ?_ ?_ eq_ok
      · exact ImplE.name (i := 4) rfl (by decide +kernel)
      refine ImplE.bin ?_ ?_ mul_ok
      · refine ImplE.list ?_
        refine ImplEs.cons ?_ ?_
        · exact ImplE.cnone
        exact ImplEs.nil
      refine ImplE.callB G rfl (g_len G hB) ?_ lenB_ok
      refine ImplEs.cons ?_ ?_
      · exact ImplE.name (i := 4) rfl (by decide +kernel)
      exact ImplEs.nil
    exact ImplS.nil

  refine ⟨.inl ⟨.bool true, .bool true, [], rfl, raisesW_false ?_, .bool true, ?_, fun _ => ⟨List.nodup_nil, fun _ h => by cases h⟩⟩, k1, k3, k2.trans ‹_›⟩
  · wrow_none_raised
  · first | wrow_post | kc_post)
