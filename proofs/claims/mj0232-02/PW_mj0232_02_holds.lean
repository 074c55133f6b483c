import PyProof.Rows.All
import Wide.All
import OpenK.AllK
import Wide.FinOn
import KE.KPar
import Lean
import PySem.Challenge.RW_mj0232_02
open PySem PySem.W PyProof.Rows
set_option Elab.async false
set_option maxRecDepth 100000
set_option linter.all false
set_option genInjectivity false
set_option genSizeOf false
-- MjA
namespace Mine

inductive Ex2 {α β : Type} (p : α → β → Prop) : Prop
  | mk : ∀ a b, p a b → Ex2 p
inductive Ex3 {α β γ : Type} (p : α → β → γ → Prop) : Prop
  | mk : ∀ a b c, p a b c → Ex3 p
inductive Ex4 {α β γ δ : Type} (p : α → β → γ → δ → Prop) : Prop
  | mk : ∀ a b c d, p a b c d → Ex4 p
inductive Ex5 {α β γ δ ε : Type} (p : α → β → γ → δ → ε → Prop) : Prop
  | mk : ∀ a b c d e, p a b c d e → Ex5 p
inductive Ex6 {α β γ δ ε ζ : Type} (p : α → β → γ → δ → ε → ζ → Prop) : Prop
  | mk : ∀ a b c d e f, p a b c d e f → Ex6 p
inductive Ex7 {α β γ δ ε ζ η : Type} (p : α → β → γ → δ → ε → ζ → η → Prop) : Prop
  | mk : ∀ a b c d e f g, p a b c d e f g → Ex7 p
inductive Ex8 {α β γ δ ε ζ η θ : Type} (p : α → β → γ → δ → ε → ζ → η → θ → Prop) : Prop
  | mk : ∀ a b c d e f g h, p a b c d e f g h → Ex8 p
inductive Ex9 {α β γ δ ε ζ η θ ι : Type} (p : α → β → γ → δ → ε → ζ → η → θ → ι → Prop) : Prop
  | mk : ∀ a b c d e f g h i, p a b c d e f g h i → Ex9 p
inductive An2 (a b : Prop) : Prop
  | mk : a → b → An2 a b
inductive An3 (a b c : Prop) : Prop
  | mk : a → b → c → An3 a b c
inductive An4 (a b c d : Prop) : Prop
  | mk : a → b → c → d → An4 a b c d
inductive An5 (a b c d e : Prop) : Prop
  | mk : a → b → c → d → e → An5 a b c d e
inductive An6 (a b c d e f : Prop) : Prop
  | mk : a → b → c → d → e → f → An6 a b c d e f
inductive An7 (a b c d e f g : Prop) : Prop
  | mk : a → b → c → d → e → f → g → An7 a b c d e f g
inductive An8 (a b c d e f g h : Prop) : Prop
  | mk : a → b → c → d → e → f → g → h → An8 a b c d e f g h
inductive An9 (a b c d e f g h i : Prop) : Prop
  | mk : a → b → c → d → e → f → g → h → i → An9 a b c d e f g h i
inductive AV where
  | none
  | bool (b : Bool)
  | int (i : Int)
  | str (x : Str)
  | tup (xs : List AV)
  | rng (a b c : Int)
  | vw (k : Bool) (d : Addr)
  | wrap (I : Addr)
  | ptr (a : Addr)
  | con (v : Value)

inductive AObj where
  | list (xs : List AV)
  | dict (es : List (Int × AV)) (ep : Nat)
  | inst (C dx : Addr)
  | attrs (fs : List (Str × AV))
  | slots (C dx : Addr) (vs : List (Option AV))
  | set (xs : List Int)
  | liter (l : Addr) (i : Nat)

noncomputable abbrev Sto := Addr → Option AObj

structure AX where
  cls : Value
  args : List AV

noncomputable def tupO (vs : List Value) : Obj := { cls := .type "tuple", data := .seq vs.toArray }
noncomputable def listO (vs : List Value) (n : Nat) : Obj := { cls := .type "list", data := .seq vs.toArray n }
noncomputable def vwO (k : Bool) (d : Addr) : Obj := { cls := .type (if k then "dict_items" else "dict_values"), data := .fields #[.ref d] }
noncomputable def wrpO (I : Addr) : Obj := { cls := .type "method-wrapper", data := .fields #[.builtin "list_iterator.__next__", .ref I] }
noncomputable def litO (l : Addr) (i : Nat) : Obj := { cls := .type "list_iterator", data := .fields #[.ref l, .int i 0] }
noncomputable def rngO (a b c : Int) (t u v : Tok) : Obj := { cls := .type "range", data := .fields #[.int a t, .int b u, .int c v] }

mutual
noncomputable def RelV (σ : Sto) (h : Heap) : AV → Value → Prop
  | .none, v => v = .none
  | .bool b, v => v = .bool b
  | .int i, v => ∃ t, v = .int i t
  | .str x, v => ∃ t, v = .str x t
  | .tup xs, v => ∃ a vs, v = .ref a ∧ h.get? a = some (tupO vs) ∧ σ a = Option.none ∧ RelVs σ h xs vs
  | .rng a b c, v => ∃ p t u w, v = .ref p ∧ h.get? p = some (rngO a b c t u w) ∧ σ p = Option.none
  | .vw k d, v => ∃ p, v = .ref p ∧ h.get? p = some (vwO k d) ∧ σ p = Option.none
  | .wrap I, v => ∃ p, v = .ref p ∧ h.get? p = some (wrpO I) ∧ σ p = Option.none
  | .ptr a, v => v = .ref a
  | .con w, v => v = w
noncomputable def RelVs (σ : Sto) (h : Heap) : List AV → List Value → Prop
  | [], vs => vs = []
  | x :: xs, vs => ∃ v vs', vs = v :: vs' ∧ RelV σ h x v ∧ RelVs σ h xs vs'
end

noncomputable def RelO (σ : Sto) (h : Heap) : Option AV → Option Value → Prop
  | some a, some v => RelV σ h a v
  | Option.none, Option.none => True
  | _, _ => False

structure Bs where
  prog : Program
  w : World
  K : Frag
  h₀ : Heap
  mg : Str → Option Value
  mb : Str → Option Value
  os : OsState
  inK : K.In h₀
  g : h₀.Ns mainGlobals mg
  b : h₀.Ns builtinsNs mb
  boot : ∀ x : Str, x ≠ "__name__" → mb x = bootBuiltins x
  lim : h₀.NoLimit
  nodig : ∃ mc, h₀.Ns cStatics mc ∧ mc "sys.int_max_str_digits" = none
  low : sysModules < h₀.objs.size

noncomputable abbrev Bs.M (B : Bs) : Model := model B.prog B.w

noncomputable def AttrE (w : World) (σ : Sto) (h : Heap) : List (Str × AV) → List DictEntry → Prop
  | [], es => es = []
  | (x, av) :: fs, es => ∃ t v es', es = ⟨PyData.keyHash w.params x, .str x t, v⟩ :: es' ∧ RelV σ h av v ∧ AttrE w σ h fs es'

noncomputable def PairE (σ : Sto) (h : Heap) : List (Int × AV) → List (Int × Value) → Prop
  | [], es => es = []
  | (x, av) :: fs, es => ∃ v es', es = (x, v) :: es' ∧ RelV σ h av v ∧ PairE σ h fs es'

noncomputable def SlotE (σ : Sto) (h : Heap) : List (Option AV) → List (Option Value) → Prop
  | [], es => es = []
  | x :: fs, es => ∃ v es', es = v :: es' ∧ RelO σ h x v ∧ SlotE σ h fs es'

noncomputable def RepO (B : Bs) (σ : Sto) (h : Heap) (a : Addr) : AObj → Prop
  | .list xs => ∃ vs n, h.get? a = some (listO vs n) ∧ RelVs σ h xs vs
  | .dict es ep => ∃ kvs, h.DictAt (intKind B.prog B.w) a kvs ep ∧ PairE σ h es kvs
  | .inst C dx => h.get? a = some ⟨.ref C, some dx, .plain, #[]⟩
  | .attrs fs => ∃ es n, h.get? a = some (dictOf es n) ∧ AttrE B.w σ h fs es
  | .slots C dx vs => ∃ sl, h.get? a = some ⟨.ref C, some dx, .plain, sl⟩ ∧ SlotE σ h vs sl.toList
  | .set xs => h.SetOf (intKind B.prog B.w) a (fun k => decide (k ∈ xs)) xs.length
  | .liter l i => h.get? a = some (litO l i)

structure RH (B : Bs) (σ : Sto) (s : Shared) : Prop where
  old : ∀ b o, B.h₀.get? b = some o → s.heap.get? b = some o
  gens : s.gens = #[]
  os : s.os = B.os
  sto : ∀ a o, σ a = some o → RepO B σ s.heap a o
  new : ∀ a, σ a ≠ Option.none → B.h₀.objs.size ≤ a
  size : B.h₀.objs.size ≤ s.heap.objs.size

noncomputable def ImmO (o : Obj) : Prop := (∃ vs, o = tupO vs) ∨ (∃ a b c t u v, o = rngO a b c t u v) ∨ (∃ k d, o = vwO k d) ∨ ∃ I, o = wrpO I
theorem ImmO.data {o : Obj} (h : ImmO o) : (∀ es n, o.data ≠ .dict es n) ∧ (∀ v, o.data ≠ .cell v) := by
  rcases h with ⟨vs, rfl⟩ | ⟨a, b, c, t, u, v, rfl⟩ | ⟨k, d, rfl⟩ | ⟨I, rfl⟩
  · exact ⟨(fun _ _ z => by cases z), (fun _ z => by cases z)⟩
  · exact ⟨(fun _ _ z => by cases z), (fun _ z => by cases z)⟩
  · exact ⟨(fun _ _ z => by cases z), (fun _ z => by cases z)⟩
  · exact ⟨(fun _ _ z => by cases z), (fun _ z => by cases z)⟩

noncomputable def KeptO (o o' : Obj) : Prop := o' = o ∨ ((∃ es n, o.data = .dict es n) ∧ ∃ sl, o' = { o with slots := sl })

structure Ext (W : Addr → Prop) (σ : Sto) (s : Shared) (σ' : Sto) (s' : Shared) : Prop where
  keep : ∀ b o, σ b = Option.none → ¬ W b → s.heap.get? b = some o → ∃ o', s'.heap.get? b = some o' ∧ KeptO o o'
  dom : ∀ a, σ a = Option.none → σ' a ≠ Option.none → s.heap.objs.size ≤ a
  size : s.heap.objs.size ≤ s'.heap.objs.size
  nt : ∀ a o, W a → s.heap.get? a = some o → ¬ ImmO o

theorem KeptO.refl (o : Obj) : KeptO o o := .inl rfl
theorem KeptO.trans {a b c : Obj} (x : KeptO a b) (y : KeptO b c) : KeptO a c := by
  rcases x with rfl | ⟨h1, sl, rfl⟩
  · exact y
  · rcases y with rfl | ⟨_, sl', rfl⟩
    · exact .inr ⟨h1, sl, rfl⟩
    · exact .inr ⟨h1, sl', rfl⟩
theorem KeptO.data {o o' : Obj} (x : KeptO o o') : o'.data = o.data := by rcases x with rfl | ⟨_, sl, rfl⟩ <;> rfl
theorem KeptO.eq {o o' : Obj} (x : KeptO o o') (h : ∀ es n, o.data ≠ .dict es n) : o' = o := by
  rcases x with rfl | ⟨⟨es, n, h1⟩, _⟩
  · rfl
  · exact absurd h1 (h es n)

noncomputable def NoW : Addr → Prop := fun _ => False

theorem Ext.refl (σ : Sto) (s : Shared) : Ext NoW σ s σ s :=
  ⟨fun b o _ _ e => ⟨o, e, .refl o⟩, fun _ h h' => absurd h h', Nat.le_refl _, fun _ _ h => h.elim⟩

theorem Ext.reflW {W : Addr → Prop} {σ : Sto} {s : Shared} (nt : ∀ a o, W a → s.heap.get? a = some o → ¬ ImmO o) : Ext W σ s σ s :=
  ⟨fun b o _ _ e => ⟨o, e, .refl o⟩, fun _ h h' => absurd h h', Nat.le_refl _, nt⟩

theorem Ext.trans {W : Addr → Prop} {σ₁ σ₂ σ₃ : Sto} {s₁ s₂ s₃ : Shared} (x : Ext W σ₁ s₁ σ₂ s₂) (y : Ext W σ₂ s₂ σ₃ s₃) : Ext W σ₁ s₁ σ₃ s₃ where
  keep := fun b o h1 h2 e => by
    obtain ⟨o', e', k⟩ := x.keep b o h1 h2 e
    have h3 : σ₂ b = Option.none := by
      cases q : σ₂ b with
      | none => rfl
      | some z => exact absurd (x.dom b h1 (by rw [q]; exact fun h => nomatch h)) (Nat.not_le.mpr (Heap.lt_size e))
    obtain ⟨o'', e'', k'⟩ := y.keep b o' h3 h2 e'
    exact ⟨o'', e'', k.trans k'⟩
  dom := fun a h1 h2 => by
    cases q : σ₂ a with
    | none => exact Nat.le_trans x.size (y.dom a q h2)
    | some z => exact x.dom a h1 (by rw [q]; exact fun h => nomatch h)
  size := Nat.le_trans x.size y.size
  nt := x.nt

theorem Ext.weaken {W : Addr → Prop} {σ σ' : Sto} {s s' : Shared} (x : Ext NoW σ s σ' s')
    (nt : ∀ a o, W a → s.heap.get? a = some o → ¬ ImmO o) : Ext W σ s σ' s' :=
  ⟨fun b o h1 _ e => x.keep b o h1 (fun h => h) e, x.dom, x.size, nt⟩

theorem Ext.stays {W : Addr → Prop} {σ σ' : Sto} {s s' : Shared} (x : Ext W σ s σ' s') {b : Addr} {o : Obj} (h : σ b = Option.none) (hw : ¬ W b) (e : s.heap.get? b = some o) (hf : ∀ es n, o.data ≠ .dict es n) :
    s'.heap.get? b = some o ∧ σ' b = Option.none := by
  obtain ⟨o', e', k⟩ := x.keep b o h hw e
  refine ⟨by rw [e', k.eq hf], ?_⟩
  cases q : σ' b with
  | none => rfl
  | some z => exact absurd (x.dom b h (by rw [q]; exact fun h => nomatch h)) (Nat.not_le.mpr (Heap.lt_size e))

theorem Ext.imm {W : Addr → Prop} {σ σ' : Sto} {s s' : Shared} (x : Ext W σ s σ' s') {b : Addr} {o : Obj} (h : σ b = Option.none) (e : s.heap.get? b = some o) (hi : ImmO o) : s'.heap.get? b = some o ∧ σ' b = Option.none :=
  x.stays h (fun hw => x.nt b o hw e hi) e hi.data.1

mutual
theorem RelV.ext {W : Addr → Prop} {σ σ' : Sto} {s s' : Shared} (x : Ext W σ s σ' s') : ∀ (av : AV) {v : Value}, RelV σ s.heap av v → RelV σ' s'.heap av v
  | .none, _, h => h
  | .bool _, _, h => h
  | .int _, _, h => h
  | .str _, _, h => h
  | .tup xs, _, ⟨a, vs, e, h1, h2, h3⟩ =>
    have q := x.imm h2 h1 (.inl ⟨_, rfl⟩)
    ⟨a, vs, e, q.1, q.2, RelVs.ext x xs h3⟩
  | .rng _ _ _, _, ⟨p, t, u, w, e, h1, h2⟩ =>
    have q := x.imm h2 h1 (.inr (.inl ⟨_, _, _, _, _, _, rfl⟩))
    ⟨p, t, u, w, e, q.1, q.2⟩
  | .vw k d, _, ⟨p, e, h1, h2⟩ =>
    have q := x.imm h2 h1 (.inr (.inr (.inl ⟨_, _, rfl⟩)))
    ⟨p, e, q.1, q.2⟩
  | .wrap I, _, ⟨p, e, h1, h2⟩ =>
    have q := x.imm h2 h1 (.inr (.inr (.inr ⟨_, rfl⟩)))
    ⟨p, e, q.1, q.2⟩
  | .ptr _, _, h => h
  | .con _, _, h => h
theorem RelVs.ext {W : Addr → Prop} {σ σ' : Sto} {s s' : Shared} (x : Ext W σ s σ' s') : ∀ (xs : List AV) {vs : List Value}, RelVs σ s.heap xs vs → RelVs σ' s'.heap xs vs
  | [], _, h => h
  | a :: xs, _, ⟨v, vs', e, h1, h2⟩ => ⟨v, vs', e, RelV.ext x a h1, RelVs.ext x xs h2⟩
end

theorem RelO.ext {W : Addr → Prop} {σ σ' : Sto} {s s' : Shared} (x : Ext W σ s σ' s') : ∀ {o : Option AV} {v : Option Value}, RelO σ s.heap o v → RelO σ' s'.heap o v
  | some _, some _, h => RelV.ext x _ h
  | some _, Option.none, h => h.elim
  | Option.none, some _, h => h.elim
  | Option.none, Option.none, _ => trivial

theorem AttrE.ext {W : Addr → Prop} {w : World} {σ σ' : Sto} {s s' : Shared} (x : Ext W σ s σ' s') : ∀ {fs : List (Str × AV)} {es : List DictEntry}, AttrE w σ s.heap fs es → AttrE w σ' s'.heap fs es
  | [], _, h => h
  | (_, _) :: _, _, ⟨t, v, es', e, h1, h2⟩ => ⟨t, v, es', e, RelV.ext x _ h1, AttrE.ext x h2⟩
theorem PairE.ext {W : Addr → Prop} {σ σ' : Sto} {s s' : Shared} (x : Ext W σ s σ' s') : ∀ {fs : List (Int × AV)} {es : List (Int × Value)}, PairE σ s.heap fs es → PairE σ' s'.heap fs es
  | [], _, h => h
  | (_, _) :: _, _, ⟨v, es', e, h1, h2⟩ => ⟨v, es', e, RelV.ext x _ h1, PairE.ext x h2⟩
theorem SlotE.ext {W : Addr → Prop} {σ σ' : Sto} {s s' : Shared} (x : Ext W σ s σ' s') : ∀ {fs : List (Option AV)} {es : List (Option Value)}, SlotE σ s.heap fs es → SlotE σ' s'.heap fs es
  | [], _, h => h
  | _ :: _, _, ⟨v, es', e, h1, h2⟩ => ⟨v, es', e, RelO.ext x h1, SlotE.ext x h2⟩

theorem RepO.move {B : Bs} {W : Addr → Prop} {σ σ' : Sto} {s s' : Shared} {a : Addr} {o : AObj} (r : RepO B σ s.heap a o) (x : Ext W σ s σ' s') (k : ∀ ob, s.heap.get? a = some ob → s'.heap.get? a = some ob) : RepO B σ' s'.heap a o := by
  cases o with
  | list xs => obtain ⟨vs, n, h, q⟩ := r; exact ⟨vs, n, k _ h, RelVs.ext x _ q⟩
  | dict es ep => obtain ⟨kvs, ⟨o, es', h, r'⟩, q⟩ := r; exact ⟨kvs, ⟨o, es', k _ h, r'⟩, PairE.ext x q⟩
  | inst C dx => exact k _ r
  | attrs fs => obtain ⟨es, n, h, q⟩ := r; exact ⟨es, n, k _ h, AttrE.ext x q⟩
  | slots C dx vs => obtain ⟨sl, h, q⟩ := r; exact ⟨sl, k _ h, SlotE.ext x q⟩
  | set xs => obtain ⟨o, es, ep, t, h, r'⟩ := r; exact ⟨o, es, ep, t, k _ h, r'⟩
  | liter l i => exact k _ r
theorem RepO.there {B : Bs} {σ : Sto} {h : Heap} {a : Addr} {o : AObj} (r : RepO B σ h a o) : ∃ ob, h.get? a = some ob := by
  cases o with
  | list xs => obtain ⟨vs, n, h, q⟩ := r; exact ⟨_, h⟩
  | dict es ep => obtain ⟨kvs, ⟨o, es', h, r'⟩, q⟩ := r; exact ⟨_, h⟩
  | inst C dx => exact ⟨_, r⟩
  | attrs fs => obtain ⟨es, n, h, q⟩ := r; exact ⟨_, h⟩
  | slots C dx vs => obtain ⟨sl, h, q⟩ := r; exact ⟨_, h⟩
  | set xs => obtain ⟨o, es, ep, t, h, r'⟩ := r; exact ⟨_, h⟩
  | liter l i => exact ⟨_, r⟩
theorem RH.still {B : Bs} {W : Addr → Prop} {σ : Sto} {s s' : Shared} (h : RH B σ s) (x : Ext W σ s σ s') (kt : ∀ a ob, σ a ≠ Option.none → s.heap.get? a = some ob → s'.heap.get? a = some ob)
    (ko : ∀ b o, B.h₀.get? b = some o → s.heap.get? b = some o → s'.heap.get? b = some o) (hg : s'.gens = s.gens) (ho : s'.os = s.os) : RH B σ s' where
  old := fun b o e => ko b o e (h.old b o e)
  gens := hg.trans h.gens
  os := ho.trans h.os
  sto := fun a o e => (h.sto a o e).move x fun ob => kt a ob (by rw [e]; exact fun z => nomatch z)
  new := h.new
  size := Nat.le_trans h.size x.size

inductive SK where
  | loc | own | cap
  deriving DecidableEq

structure FC where
  slots : List (Str × SK)
  names : List (Str × NameKind)

noncomputable def lget : List (Option AV) → Nat → Option AV
  | [], _ => Option.none
  | x :: _, 0 => x
  | _ :: xs, n + 1 => lget xs n
noncomputable def lset : List (Option AV) → Nat → Option AV → List (Option AV)
  | [], _, _ => []
  | _ :: xs, 0, v => v :: xs
  | x :: xs, n + 1, v => x :: lset xs n v

structure AS where
  m : List (Option AV)
  σ : Sto

theorem lget_lset (m : List (Option AV)) (i j : Nat) (v : Option AV) : lget (lset m i v) j = if i = j ∧ i < m.length then v else lget m j := by
  induction m generalizing i j with
  | nil => simp [lset, lget]
  | cons x xs ih =>
    cases i with
    | zero => cases j with
      | zero => simp [lset, lget]
      | succ j => simp [lset, lget]
    | succ i => cases j with
      | zero => simp [lset, lget]
      | succ j => simp [lset, lget, ih]
theorem lset_length (m : List (Option AV)) (i : Nat) (v : Option AV) : (lset m i v).length = m.length := by
  induction m generalizing i with
  | nil => rfl
  | cons x xs ih => cases i with
    | zero => rfl
    | succ i => simp [lset, ih]

structure EnvOk (fc : FC) (env : Env) : Prop where
  kind : env.scope.kind = .function
  glob : env.globals = mainGlobals
  blt : env.builtins = builtinsNs
  names : env.scope.names = fc.names
  nodup : (fc.slots.map (·.1)).Nodup
  inj : ∀ x y c, env.cells.lookup x = some c → env.cells.lookup y = some c → x = y

inductive CellI (B : Bs) (env : Env) (σ : Sto) (s : Shared) (x : Str) (o : Option AV) : Prop
  | mk : ∀ c ov, env.cells.lookup x = some c → s.heap.IsCell c ov → RelO σ s.heap o ov → σ c = Option.none → B.h₀.objs.size ≤ c → CellI B env σ s x o
structure RF (B : Bs) (fc : FC) (env : Env) (st : AS) (s : Shared) : Prop where
  len : fc.slots.length ≤ st.m.length
  ns : ∃ mm, s.heap.Ns env.locals mm ∧ ∀ i x, fc.slots[i]? = some (x, .loc) → RelO st.σ s.heap (lget st.m i) (mm x)
  nsN : st.σ env.locals = Option.none ∧ B.h₀.objs.size ≤ env.locals
  cell : ∀ i x k, fc.slots[i]? = some (x, k) → k ≠ .loc → CellI B env st.σ s x (lget st.m i)

noncomputable def Wf (fc : FC) (env : Env) (a : Addr) : Prop := a = env.locals ∨ ∃ (i : Nat) (x : Str), fc.slots[i]? = some (x, SK.own) ∧ env.cells.lookup x = some a

theorem RF.nt {B : Bs} {fc : FC} {env : Env} {st : AS} {s : Shared} (F : RF B fc env st s) : ∀ a o, Wf fc env a → s.heap.get? a = some o → ¬ ImmO o := by
  rintro a o (rfl | ⟨i, x, hi, hc⟩) e hI
  · obtain ⟨mm, ⟨o', es, ep, e', d, _⟩, _⟩ := F.ns
    rw [e'] at e; cases e
    exact hI.data.1 _ _ d
  · obtain ⟨c, ov, hc', ⟨o', e', d'⟩, _⟩ := F.cell i x .own hi (by decide)
    rw [hc] at hc'; cases hc'
    rw [e'] at e; cases e
    exact hI.data.2 _ d'

structure Rm where
  lv : Nat
  he : Option (Addr × AX)
noncomputable def Rm.hm (R : Rm) : Bool := R.he.isSome

inductive HndI (hd : Option Value) (he : Option (Addr × AX)) (σ : Sto) (s : Shared) : Prop
  | mk : ∀ e y o vs tv, he = some (e, y) → hd = some (.ref e) → s.heap.get? e = some o → o.data = .fields vs → vs[2]? = some .none → σ e = Option.none → o.cls = y.cls → vs[0]? = some tv → RelV σ s.heap (.tup y.args) tv → HndI hd he σ s
structure AOk (B : Bs) (A : Around) (R : Rm) (σ : Sto) (s : Shared) : Prop where
  depth : A.depth + 20 * R.lv ≤ 900
  units : A.units + 200 * R.lv ≤ 9000
  frames : ∃ l, A.frames = some l ∧ s.heap.FunFrames B.h₀ l ∧ ∀ env ∈ l, ∀ L, env.frame = some L → σ L = Option.none ∧ ∃ o es n, s.heap.get? L = some o ∧ o.data = .dict es n
  handled : (A.handled = Option.none ∧ R.he = Option.none) ∨ HndI A.handled R.he σ s

theorem FunFrames.map {h h' base : Heap} : ∀ {l : List Env}, h.FunFrames base l → (∀ env ∈ l, ∀ L o, env.frame = some L → h.get? L = some o → (∀ vs, o.data ≠ .fields vs) → ∃ o', h'.get? L = some o' ∧ ∀ vs, o'.data ≠ .fields vs) → h'.FunFrames base l
  | [], _, _ => trivial
  | env :: l, ⟨hk, ⟨L, o, hf, hb, ho, hd⟩, r⟩, k => by
    obtain ⟨o', e', d'⟩ := k env (.head _) L o hf ho hd
    exact ⟨hk, ⟨L, o', hf, hb, e', d'⟩, FunFrames.map r fun e he => k e (.tail _ he)⟩

theorem AOk.ext {B : Bs} {A : Around} {R : Rm} {W : Addr → Prop} {σ σ' : Sto} {s s' : Shared} (a : AOk B A R σ s) (x : Ext W σ s σ' s')
    (hw : ∀ b, W b → (∃ env L, env ∈ A.frames.getD [] ∧ env.frame = some L ∧ L = b) → ∃ o es n, s'.heap.get? b = some o ∧ o.data = .dict es n) (hwh : ∀ b, W b → A.handled ≠ some (.ref b)) : AOk B A R σ' s' where
  depth := a.depth
  units := a.units
  frames := by
    obtain ⟨l, h1, h2, h3⟩ := a.frames
    have key : ∀ env ∈ l, ∀ L, env.frame = some L → ∃ o es n, s'.heap.get? L = some o ∧ o.data = .dict es n := fun env he L hf => by
      by_cases q : W L
      · exact hw L q ⟨env, L, by rw [h1]; exact he, hf, rfl⟩
      · obtain ⟨hn, o, es, n, ho, hd⟩ := h3 env he L hf
        obtain ⟨o', e', k⟩ := x.keep L o hn q ho
        exact ⟨o', es, n, e', k.data.trans hd⟩
    refine ⟨l, h1, FunFrames.map h2 fun env he L o hf ho hd => ?_, fun env he L hf => ⟨?_, key env he L hf⟩⟩
    · obtain ⟨o', es, n, e', d'⟩ := key env he L hf
      exact ⟨o', e', fun vs z => by rw [d'] at z; cases z⟩
    · obtain ⟨hn, o, es, n, ho, hd⟩ := h3 env he L hf
      cases q : σ' L with
      | none => rfl
      | some z => exact absurd (x.dom L hn (by rw [q]; exact fun h => nomatch h)) (Nat.not_le.mpr (Heap.lt_size ho))
  handled := by
    rcases a.handled with h | ⟨e, y, o, vs, tv, h0, h1, h2, h3, h4, h5, h6, h7, h8⟩
    · exact .inl h
    · have q := x.stays h5 (fun hw' => hwh e hw' h1) h2 (fun es n z => by rw [h3] at z; cases z)
      exact .inr ⟨e, y, o, vs, tv, h0, h1, q.1, h3, h4, q.2, h6, h7, RelV.ext x _ h8⟩

theorem RF.hw {B : Bs} {fc : FC} {env : Env} {A : Around} {R : Rm} {st₀ st : AS} {s₀ s : Shared} (F₀ : RF B fc env st₀ s₀) (a : AOk B A R st₀.σ s₀) (F : RF B fc env st s) : ∀ b, Wf fc env b → (∃ env' L, env' ∈ A.frames.getD [] ∧ env'.frame = some L ∧ L = b) → ∃ o es n, s.heap.get? b = some o ∧ o.data = .dict es n := by
  rintro b (rfl | ⟨i, x, hi, hc⟩) ⟨env', L, hm, hf, rfl⟩
  · obtain ⟨mm, ⟨o', es, ep, e', d, _⟩, _⟩ := F.ns
    exact ⟨o', es, ep, e', d⟩
  · obtain ⟨c, ov, hc', ⟨o', e', d'⟩, _⟩ := F₀.cell i x .own hi (by decide)
    rw [hc] at hc'; cases hc'
    obtain ⟨l, h1, h2, h3⟩ := a.frames
    rw [h1] at hm
    obtain ⟨_, o, es, n, ho, hd⟩ := h3 env' hm _ hf
    rw [e'] at ho; cases ho
    rw [d'] at hd; cases hd
theorem RF.hwh {B : Bs} {fc : FC} {env : Env} {A : Around} {R : Rm} {st : AS} {s : Shared} (F : RF B fc env st s) (a : AOk B A R st.σ s) : ∀ b, Wf fc env b → A.handled ≠ some (.ref b) := by
  intro b hb q
  rcases a.handled with ⟨h, _⟩ | ⟨e, y, o, vs, tv, _, h1, h2, h3, _⟩
  · rw [h] at q; cases q
  · rw [h1] at q; cases q
    rcases hb with rfl | ⟨i, x, hi, hc⟩
    · obtain ⟨mm, ⟨o', es, ep, e', d, _⟩, _⟩ := F.ns
      rw [h2] at e'; cases e'
      rw [h3] at d; cases d
    · obtain ⟨c, ov, hc', ⟨o', e', d'⟩, _⟩ := F.cell i x .own hi (by decide)
      rw [hc] at hc'; cases hc'
      rw [h2] at e'; cases e'
      rw [h3] at d'; cases d'

theorem Ns.kept {h h' : Heap} {a : Addr} {m : Str → Option Value} (n : h.Ns a m) (k : ∀ o, h.get? a = some o → ∃ o', h'.get? a = some o' ∧ KeptO o o') : h'.Ns a m := by
  obtain ⟨o, es, ep, e, d, r⟩ := n
  obtain ⟨o', e', q⟩ := k o e
  exact ⟨o', es, ep, e', q.data ▸ d, r⟩

theorem RF.op {B : Bs} {fc : FC} {env : Env} {st : AS} {s s' : Shared} {σ' : Sto} (F : RF B fc env st s) (x : Ext NoW st.σ s σ' s') : RF B fc env ⟨st.m, σ'⟩ s' where
  len := F.len
  ns := by
    obtain ⟨mm, n, h⟩ := F.ns
    exact ⟨mm, Ns.kept n fun o e => x.keep _ o F.nsN.1 (fun h => h) e, fun i x' hi => RelO.ext x (h i x' hi)⟩
  nsN := by
    refine ⟨?_, F.nsN.2⟩
    obtain ⟨mm, ⟨o, _, _, e, _⟩, _⟩ := F.ns
    cases q : σ' env.locals with
    | none => exact q
    | some z => exact absurd (x.dom _ F.nsN.1 (by rw [q]; exact fun h => nomatch h)) (Nat.not_le.mpr (Heap.lt_size e))
  cell := fun i y k hi hk => by
    obtain ⟨c, ov, h1, ⟨o', e', d'⟩, h3, h4, h5⟩ := F.cell i y k hi hk
    have q := x.stays h4 (fun h => h) e' (fun _ _ z => by rw [d'] at z; cases z)
    exact ⟨c, ov, h1, ⟨o', q.1, d'⟩, RelO.ext x h3, q.2, h5⟩

structure St (B : Bs) (fc : FC) (env : Env) (A : Around) (R : Rm) (st : AS) (s : Shared) : Prop where
  rh : RH B st.σ s
  rf : RF B fc env st s
  ao : AOk B A R st.σ s
  eo : EnvOk fc env
  fr : ∃ env₀ outer L, A.frames = some (env₀ :: outer) ∧ env₀.frame = env.frame ∧ env.frame = some L

theorem AOk.noW {B : Bs} {A : Around} {R : Rm} {σ σ' : Sto} {s s' : Shared} (a : AOk B A R σ s) (x : Ext NoW σ s σ' s') : AOk B A R σ' s' := a.ext x (fun _ h => h.elim) fun _ h => h.elim

theorem St.op {B : Bs} {fc : FC} {env : Env} {A : Around} {R : Rm} {st : AS} {s s' : Shared} {σ' : Sto} (S : St B fc env A R st s) (h : RH B σ' s') (x : Ext NoW st.σ s σ' s') : St B fc env A R ⟨st.m, σ'⟩ s' :=
  ⟨h, S.rf.op x, S.ao.noW x, S.eo, S.fr⟩
theorem St.extW {B : Bs} {fc : FC} {env : Env} {A : Around} {R : Rm} {st : AS} {s s' : Shared} {σ' : Sto} (S : St B fc env A R st s) (x : Ext NoW st.σ s σ' s') : Ext (Wf fc env) st.σ s σ' s' := x.weaken S.rf.nt

end Mine
-- MjB
namespace Mine

noncomputable def XCls (c : Value) : Prop := c ≠ .type "tuple" ∧ c ≠ .type "range" ∧ c ≠ .type "dict_items" ∧ c ≠ .type "dict_values" ∧ c ≠ .type "method-wrapper"
theorem XCls.imm {o : Obj} (h : XCls o.cls) : ¬ ImmO o := by
  rintro (⟨vs, rfl⟩ | ⟨a, b, c, t, u, v, rfl⟩ | ⟨k, d, rfl⟩ | ⟨I, rfl⟩)
  · exact h.1 rfl
  · exact h.2.1 rfl
  · cases k
    · exact h.2.2.2.1 rfl
    · exact h.2.2.1 rfl
  · exact h.2.2.2.2 rfl
inductive TbI (σ : Sto) (h : Heap) (n : Nat) (ea : Addr) (vs : Array Value) : Prop
  | mk : ∀ T oT ts, vs[1]? = some (.ref T) → h.get? T = some oT → oT.data = .fields ts → 3 < ts.size → σ T = Option.none → n ≤ T → T ≠ ea → XCls oT.cls → TbI σ h n ea vs
inductive RelX (σ : Sto) (h : Heap) (n : Nat) (e : Value) (x : AX) : Prop
  | mk : ∀ ea oe vs tv, e = .ref ea → h.get? ea = some oe → oe.cls = x.cls → oe.data = .fields vs → vs[0]? = some tv → RelV σ h (.tup x.args) tv → vs[2]? = some .none → σ ea = Option.none → n ≤ ea → XCls oe.cls →
    (vs[1]? = some .none ∨ TbI σ h n ea vs) → RelX σ h n e x
noncomputable def Noted (h : Heap) (e : Value) : Prop := Ex4 fun ea oe vs T => An4 (e = .ref ea) (h.get? ea = some oe) (oe.data = .fields vs) (vs[1]? = some (.ref T))

theorem RelX.le {σ : Sto} {h : Heap} {n m : Nat} {e : Value} {x : AX} (r : RelX σ h n e x) (hm : m ≤ n) : RelX σ h m e x := by
  obtain ⟨ea, oe, vs, tv, h1, h2, h3, h4, h5, h6, h7, h8, h9, hc, h10⟩ := r
  refine ⟨ea, oe, vs, tv, h1, h2, h3, h4, h5, h6, h7, h8, Nat.le_trans hm h9, hc, ?_⟩
  rcases h10 with q | ⟨T, oT, ts, a, b, c, d, e, f, g, g'⟩
  · exact .inl q
  · exact .inr ⟨T, oT, ts, a, b, c, d, e, Nat.le_trans hm f, g, g'⟩

noncomputable abbrev OD := Sto → (AV → Sto → Prop) → (AX → Sto → Prop) → Prop
noncomputable abbrev QX := AX → AS → Prop
noncomputable abbrev ED := AS → (AV → AS → Prop) → QX → Prop
noncomputable abbrev BD := AS → (Bool → AS → Prop) → QX → Prop
inductive Out where
  | next | brk | cont | ret (v : AV)
noncomputable abbrev SD := AS → (Out → AS → Prop) → QX → Prop

section
variable (B : Bs)

inductive PO (σ : Sto) (s : Shared) (Q : AV → Sto → Prop) (v : Value) (s' : Shared) : Prop
  | mk : ∀ av σ', RH B σ' s' → Ext NoW σ s σ' s' → RelV σ' s'.heap av v → Q av σ' → PO σ s Q v s'
inductive PXo (σ : Sto) (s : Shared) (X : AX → Sto → Prop) (e : Value) (s' : Shared) : Prop
  | mk : ∀ x σ', RH B σ' s' → Ext NoW σ s σ' s' → RelX σ' s'.heap s.heap.objs.size e x → X x σ' → PXo σ s X e s'

noncomputable def SemO1 (R : Rm) (t : Value → Sem Value) (f : AV → OD) : Prop :=
  ∀ A σ s a v Q X, AOk B A R σ s → RH B σ s → RelV σ s.heap a v → f a σ Q X → wpAny B.M A (t v) (PO B σ s Q) (PXo B σ s X) s
noncomputable def SemO2 (R : Rm) (t : Value → Value → Sem Value) (f : AV → AV → OD) : Prop :=
  ∀ A σ s a v b u Q X, AOk B A R σ s → RH B σ s → RelV σ s.heap a v → RelV σ s.heap b u → f a b σ Q X → wpAny B.M A (t v u) (PO B σ s Q) (PXo B σ s X) s
noncomputable def SemOn (R : Rm) (t : List Value → Sem Value) (f : List AV → OD) : Prop :=
  ∀ A σ s as vs Q X, AOk B A R σ s → RH B σ s → RelVs σ s.heap as vs → f as σ Q X → wpAny B.M A (t vs) (PO B σ s Q) (PXo B σ s X) s
noncomputable def SemT (R : Rm) (t : Value → Sem Bool) (f : AV → Sto → (Bool → Prop) → Prop) : Prop :=
  ∀ A σ s a v (Q : Bool → Prop) E, AOk B A R σ s → RH B σ s → RelV σ s.heap a v → f a σ Q → wpAny B.M A (t v) (fun b s' => RH B σ s' ∧ Ext NoW σ s σ s' ∧ Q b) E s
noncomputable def SemU3 (R : Rm) (t : Value → Value → Value → Sem Unit) (f : AV → AV → AV → Sto → (Sto → Prop) → Prop) : Prop :=
  ∀ A σ s a v b u c w (Q : Sto → Prop) E, AOk B A R σ s → RH B σ s → RelV σ s.heap a v → RelV σ s.heap b u → RelV σ s.heap c w → f a b c σ Q →
    wpAny B.M A (t v u w) (fun _ s' => ∃ σ', RH B σ' s' ∧ Ext NoW σ s σ' s' ∧ Q σ') E s
noncomputable def SemU2 (R : Rm) (t : Value → Value → Sem Unit) (f : AV → AV → Sto → (Sto → Prop) → Prop) : Prop :=
  ∀ A σ s a v b u (Q : Sto → Prop) E, AOk B A R σ s → RH B σ s → RelV σ s.heap a v → RelV σ s.heap b u → f a b σ Q →
    wpAny B.M A (t v u) (fun _ s' => ∃ σ', RH B σ' s' ∧ Ext NoW σ s σ' s' ∧ Q σ') E s

variable (fc : FC) (env : Env) (A : Around) (R : Rm)
inductive PV (st : AS) (s : Shared) (Q : AV → AS → Prop) (v : Value) (s' : Shared) : Prop
  | mk : ∀ av st', St B fc env A R st' s' → Ext (Wf fc env) st.σ s st'.σ s' → RelV st'.σ s'.heap av v → Q av st' → PV st s Q v s'
inductive PVs (st : AS) (s : Shared) (Q : List AV → AS → Prop) (vs : List Value) (s' : Shared) : Prop
  | mk : ∀ avs st', St B fc env A R st' s' → Ext (Wf fc env) st.σ s st'.σ s' → RelVs st'.σ s'.heap avs vs → Q avs st' → PVs st s Q vs s'
inductive PX (st : AS) (s : Shared) (X : QX) (e : Value) (s' : Shared) : Prop
  | mk : ∀ x st', St B fc env A R st' s' → Ext (Wf fc env) st.σ s st'.σ s' → RelX st'.σ s'.heap s.heap.objs.size e x → X x st' → PX st s X e s'
inductive PB (st : AS) (s : Shared) (Q : Bool → AS → Prop) (b : Bool) (s' : Shared) : Prop
  | mk : ∀ st', St B fc env A R st' s' → Ext (Wf fc env) st.σ s st'.σ s' → Q b st' → PB st s Q b s'
inductive PU (st : AS) (s : Shared) (Q : AS → Prop) (u : Unit) (s' : Shared) : Prop
  | mk : ∀ st', St B fc env A R st' s' → Ext (Wf fc env) st.σ s st'.σ s' → Q st' → PU st s Q u s'
noncomputable def RelOut (σ : Sto) (h : Heap) : Out → Flow → Prop
  | .next, f => f = .next
  | .brk, f => f = .brk
  | .cont, f => f = .cont
  | .ret a, f => ∃ v, f = .ret v ∧ RelV σ h a v
inductive PF (st : AS) (s : Shared) (Q : Out → AS → Prop) (f : Flow) (s' : Shared) : Prop
  | mk : ∀ o st', St B fc env A R st' s' → Ext (Wf fc env) st.σ s st'.σ s' → RelOut st'.σ s'.heap o f → Q o st' → PF st s Q f s'
end

section
variable (B : Bs) (fc : FC) (R : Rm)
noncomputable def SemE (e : Expr) (d : ED) : Prop :=
  ∀ env A st s Q X, St B fc env A R st s → d st Q X → wpAny B.M A (eval e env) (PV B fc env A R st s Q) (PX B fc env A R st s X) s
noncomputable def SemB (e : Expr) (d : BD) : Prop :=
  ∀ env A st s Q X, St B fc env A R st s → d st Q X → wpAny B.M A (isTrue e env (eval e env)) (PB B fc env A R st s Q) (PX B fc env A R st s X) s
noncomputable def SemS (c : Stmt) (d : SD) : Prop :=
  ∀ env A st s Q X, St B fc env A R st s → d st Q X → wpAny B.M A (exec c env) (PF B fc env A R st s Q) (PX B fc env A R st s X) s
noncomputable def SemSs (c : List Stmt) (d : SD) : Prop :=
  ∀ env A st s Q X, St B fc env A R st s → d st Q X → wpAny B.M A (execs c env) (PF B fc env A R st s Q) (PX B fc env A R st s X) s
noncomputable def SemG (e : Expr) (d : AV → AS → (AS → Prop) → QX → Prop) : Prop :=
  ∀ env A st s av v Q X, St B fc env A R st s → RelV st.σ s.heap av v → d av st Q X → wpAny B.M A (assign e env v) (PU B fc env A R st s Q) (PX B fc env A R st s X) s
end

section
variable {B : Bs} {fc : FC} {env : Env} {A : Around} {R : Rm} {st st₁ : AS} {s s₁ : Shared}
theorem PV.of (x : Ext (Wf fc env) st.σ s st₁.σ s₁) {Q : AV → AS → Prop} {v : Value} {s' : Shared} (h : PV B fc env A R st₁ s₁ Q v s') : PV B fc env A R st s Q v s' := by
  obtain ⟨av, st', h1, h2, h3, h4⟩ := h
  exact ⟨av, st', h1, x.trans h2, h3, h4⟩
theorem PX.of (x : Ext (Wf fc env) st.σ s st₁.σ s₁) {X : QX} {v : Value} {s' : Shared} (h : PX B fc env A R st₁ s₁ X v s') : PX B fc env A R st s X v s' := by
  obtain ⟨av, st', h1, h2, h3, h4⟩ := h
  exact ⟨av, st', h1, x.trans h2, h3.le x.size, h4⟩
theorem PB.of (x : Ext (Wf fc env) st.σ s st₁.σ s₁) {Q : Bool → AS → Prop} {v : Bool} {s' : Shared} (h : PB B fc env A R st₁ s₁ Q v s') : PB B fc env A R st s Q v s' := by
  obtain ⟨st', h1, h2, h4⟩ := h
  exact ⟨st', h1, x.trans h2, h4⟩
theorem PU.of (x : Ext (Wf fc env) st.σ s st₁.σ s₁) {Q : AS → Prop} {v : Unit} {s' : Shared} (h : PU B fc env A R st₁ s₁ Q v s') : PU B fc env A R st s Q v s' := by
  obtain ⟨st', h1, h2, h4⟩ := h
  exact ⟨st', h1, x.trans h2, h4⟩
theorem PF.of (x : Ext (Wf fc env) st.σ s st₁.σ s₁) {Q : Out → AS → Prop} {v : Flow} {s' : Shared} (h : PF B fc env A R st₁ s₁ Q v s') : PF B fc env A R st s Q v s' := by
  obtain ⟨o, st', h1, h2, h3, h4⟩ := h
  exact ⟨o, st', h1, x.trans h2, h3, h4⟩
theorem PV.op (S : St B fc env A R st s) {Q : AV → AS → Prop} {v : Value} {s' : Shared} (h : PO B st.σ s (fun r σ => Q r ⟨st.m, σ⟩) v s') : PV B fc env A R st s Q v s' := by
  obtain ⟨av, σ', h1, h2, h3, h4⟩ := h
  exact ⟨av, ⟨st.m, σ'⟩, S.op h1 h2, S.extW h2, h3, h4⟩
theorem PX.op (S : St B fc env A R st s) {X : QX} {v : Value} {s' : Shared} (h : PXo B st.σ s (fun r σ => X r ⟨st.m, σ⟩) v s') : PX B fc env A R st s X v s' := by
  obtain ⟨av, σ', h1, h2, h3, h4⟩ := h
  exact ⟨av, ⟨st.m, σ'⟩, S.op h1 h2, S.extW h2, h3, h4⟩
theorem St.refl (S : St B fc env A R st s) : Ext (Wf fc env) st.σ s st.σ s := Ext.reflW S.rf.nt
theorem PV.ret (S : St B fc env A R st s) {Q : AV → AS → Prop} {v : Value} {av : AV} (h : RelV st.σ s.heap av v) (q : Q av st) : PV B fc env A R st s Q v s := ⟨av, st, S, S.refl, h, q⟩
end


section
variable {B : Bs} {fc : FC} {R : Rm} {env : Env} {A : Around} {st : AS} {s s' : Shared} {P : Prop}
theorem PV.el {Q : AV → AS → Prop} {v : Value} (k : ∀ av st', St B fc env A R st' s' → Ext (Wf fc env) st.σ s st'.σ s' → RelV st'.σ s'.heap av v → Q av st' → P) (h : PV B fc env A R st s Q v s') : P :=
  let ⟨_, _, h1, h2, h3, h4⟩ := h; k _ _ h1 h2 h3 h4
theorem PVs.el {Q : List AV → AS → Prop} {v : List Value} (k : ∀ av st', St B fc env A R st' s' → Ext (Wf fc env) st.σ s st'.σ s' → RelVs st'.σ s'.heap av v → Q av st' → P) (h : PVs B fc env A R st s Q v s') : P :=
  let ⟨_, _, h1, h2, h3, h4⟩ := h; k _ _ h1 h2 h3 h4
theorem PX.el {X : QX} {v : Value} (k : ∀ x st', St B fc env A R st' s' → Ext (Wf fc env) st.σ s st'.σ s' → RelX st'.σ s'.heap s.heap.objs.size v x → X x st' → P) (h : PX B fc env A R st s X v s') : P :=
  let ⟨_, _, h1, h2, h3, h4⟩ := h; k _ _ h1 h2 h3 h4
theorem PB.el {Q : Bool → AS → Prop} {b : Bool} (k : ∀ st', St B fc env A R st' s' → Ext (Wf fc env) st.σ s st'.σ s' → Q b st' → P) (h : PB B fc env A R st s Q b s') : P :=
  let ⟨_, h1, h2, h4⟩ := h; k _ h1 h2 h4
theorem PU.el {Q : AS → Prop} {b : Unit} (k : ∀ st', St B fc env A R st' s' → Ext (Wf fc env) st.σ s st'.σ s' → Q st' → P) (h : PU B fc env A R st s Q b s') : P :=
  let ⟨_, h1, h2, h4⟩ := h; k _ h1 h2 h4
theorem PF.el {Q : Out → AS → Prop} {f : Flow} (k : ∀ o st', St B fc env A R st' s' → Ext (Wf fc env) st.σ s st'.σ s' → RelOut st'.σ s'.heap o f → Q o st' → P) (h : PF B fc env A R st s Q f s') : P :=
  let ⟨_, _, h1, h2, h3, h4⟩ := h; k _ _ h1 h2 h3 h4
theorem PO.el {σ : Sto} {Q : AV → Sto → Prop} {v : Value} (k : ∀ av σ', RH B σ' s' → Ext NoW σ s σ' s' → RelV σ' s'.heap av v → Q av σ' → P) (h : PO B σ s Q v s') : P :=
  let ⟨_, _, h1, h2, h3, h4⟩ := h; k _ _ h1 h2 h3 h4
end

theorem RH.toks {B : Bs} {σ : Sto} {s : Shared} (h : RH B σ s) (t : Nat) : RH B σ { s with toks := t } := ⟨h.old, h.gens, h.os, h.sto, h.new, h.size⟩
theorem Ext.toks (σ : Sto) (s : Shared) (t : Nat) : Ext NoW σ s σ { s with toks := t } := ⟨fun b o _ _ e => ⟨o, e, .refl o⟩, fun _ h h' => absurd h h', Nat.le_refl _, fun _ _ h => h.elim⟩

section
variable {B : Bs} {fc : FC} {R : Rm}

noncomputable def Con (v : AV) : ED := fun st Q _ => Q v st
noncomputable def Var (i : Nat) : ED := fun st Q _ => match lget st.m i with | some v => Q v st | Option.none => False
noncomputable def Op1 (f : AV → OD) (a : ED) : ED := fun st Q X => a st (fun va st => f va st.σ (fun r σ => Q r ⟨st.m, σ⟩) (fun x σ => X x ⟨st.m, σ⟩)) X
noncomputable def Op2 (f : AV → AV → OD) (a b : ED) : ED := fun st Q X => a st (fun va st => b st (fun vb st => f va vb st.σ (fun r σ => Q r ⟨st.m, σ⟩) (fun x σ => X x ⟨st.m, σ⟩)) X) X

theorem SemE_int (i : Int) (k : Nat) (pos : Pos) : SemE B fc R (.Constant (.int i) k pos) (Con (.int i)) := by
  intro env A st s Q X S d
  have S' : St B fc env A R st { s with toks := s.toks + 1 } := S.op (S.rh.toks _) (Ext.toks _ _ _)
  exact wpAny_Constant_int ⟨.int i, st, S', S.extW (Ext.toks _ _ _), ⟨_, rfl⟩, d⟩
theorem SemE_none (k : Nat) (pos : Pos) : SemE B fc R (.Constant .none k pos) (Con .none) := by
  intro env A st s Q X S d
  rw [eval_Constant]
  exact wpAny_pure (PV.ret S (av := .none) rfl d)
theorem SemE_bool (b : Bool) (k : Nat) (pos : Pos) : SemE B fc R (.Constant (.bool b) k pos) (Con (.bool b)) := by
  intro env A st s Q X S d
  rw [eval_Constant]
  exact wpAny_pure (PV.ret S (av := .bool b) rfl d)
theorem SemE_str (x : Str) (k : Nat) (pos : Pos) : SemE B fc R (.Constant (.str x) k pos) (Con (.str x)) := by
  intro env A st s Q X S d
  have S' : St B fc env A R st { s with toks := s.toks + 1 } := S.op (S.rh.toks _) (Ext.toks _ _ _)
  exact Calls.Constant_str ⟨.str x, st, S', S.extW (Ext.toks _ _ _), ⟨_, rfl⟩, d⟩

theorem EnvOk.kindOf {env : Env} (e : EnvOk fc env) (x : Str) : env.kindOf x = fc.names.lookup x := by unfold Env.kindOf; rw [e.names]

theorem RelO.someE {σ : Sto} {h : Heap} {a : AV} {ov : Option Value} (r : RelO σ h (Option.some a) ov) : ∃ v, ov = Option.some v ∧ RelV σ h a v := by
  cases ov with
  | none => exact r.elim
  | some v => exact ⟨v, rfl, r⟩

theorem SemE_loc {x : Str} {pos : Pos} {i : Nat} (hk : fc.names.lookup x = some .local) (hi : fc.slots[i]? = some (x, .loc)) (hd : (x == ("__debug__" : Str)) = false) :
    SemE B fc R (.Name x pos) (Var i) := by
  intro env A st s Q X S d
  unfold Var at d
  cases q : lget st.m i with
  | none => rw [q] at d; exact d.elim
  | some av =>
    rw [q] at d
    obtain ⟨mm, n, h⟩ := S.rf.ns
    have r := h i x hi
    rw [q] at r
    obtain ⟨v, e, r⟩ := RelO.someE r
    exact wpAny_Name (wpAny_loadName_local S.eo.kind ((S.eo.kindOf x).trans hk) n e (PV.ret S r d)) hd
theorem SemE_cell {x : Str} {pos : Pos} {i : Nat} {k : SK} (hkk : k ≠ .loc) (hk : fc.names.lookup x = some .cell) (hi : fc.slots[i]? = some (x, k)) (hd : (x == ("__debug__" : Str)) = false) :
    SemE B fc R (.Name x pos) (Var i) := by
  intro env A st s Q X S d
  unfold Var at d
  cases q : lget st.m i with
  | none => rw [q] at d; exact d.elim
  | some av =>
    rw [q] at d
    obtain ⟨c, ov, h1, h2, r, _⟩ := S.rf.cell i x k hi hkk
    rw [q] at r
    obtain ⟨v, e, r⟩ := RelO.someE r
    subst e
    exact wpAny_Name (wpAny_loadName_cell S.eo.kind ((S.eo.kindOf x).trans hk) h1 h2 (PV.ret S r d)) hd
theorem RH.g {σ : Sto} {s : Shared} (h : RH B σ s) : s.heap.Ns mainGlobals B.mg := B.g.keeps h.old
theorem RH.b {σ : Sto} {s : Shared} (h : RH B σ s) : s.heap.Ns builtinsNs B.mb := B.b.keeps h.old
theorem RH.inK {σ : Sto} {s : Shared} (h : RH B σ s) : B.K.In s.heap := B.inK.keeps h.old
theorem RH.lim {σ : Sto} {s : Shared} (h : RH B σ s) : s.heap.NoLimit := B.lim.keeps h.old

theorem SemE_glob {x : Str} {pos : Pos} {v : Value} (hk : fc.names.lookup x = some .globalImplicit) (hv : nsIn B.K mainGlobals x = some (some v)) (hd : (x == ("__debug__" : Str)) = false) :
    SemE B fc R (.Name x pos) (Con (.con v)) := by
  intro env A st s Q X S d
  refine Calls.Name_function_global S.eo.kind ((S.eo.kindOf x).trans hk) (Calls.loadGlobal_global (mg := B.mg) ?_ (mg_of B.inK B.g hv) (PV.ret S (av := .con v) rfl d)) hd
  rw [S.eo.glob]; exact S.rh.g
theorem SemE_blt {x : Str} {pos : Pos} {v : Value} (hk : fc.names.lookup x = some .globalImplicit) (hv : nsIn B.K mainGlobals x = some Option.none) (hb : bootBuiltins x = some v) (hn : x ≠ "__name__") (hd : (x == ("__debug__" : Str)) = false) :
    SemE B fc R (.Name x pos) (Con (.con v)) := by
  intro env A st s Q X S d
  refine Calls.Name_function_global S.eo.kind ((S.eo.kindOf x).trans hk) (Calls.loadGlobal_builtin (mg := B.mg) (mb := B.mb) ?_ (mg_none_of B.inK B.g hv) ?_ ((B.boot x hn).trans hb) (PV.ret S (av := .con v) rfl d)) hd
  · rw [S.eo.glob]; exact S.rh.g
  · rw [S.eo.blt]; exact S.rh.b
theorem SemE_globInt {x : Str} {pos : Pos} {i : Int} {t : Tok} (hk : fc.names.lookup x = some .globalImplicit) (hv : nsIn B.K mainGlobals x = some (some (.int i t))) (hd : (x == ("__debug__" : Str)) = false) :
    SemE B fc R (.Name x pos) (Con (.int i)) := by
  intro env A st s Q X S d
  refine Calls.Name_function_global S.eo.kind ((S.eo.kindOf x).trans hk) (Calls.loadGlobal_global (mg := B.mg) ?_ (mg_of B.inK B.g hv) (PV.ret S (av := .int i) ⟨t, rfl⟩ d)) hd
  rw [S.eo.glob]; exact S.rh.g

theorem SemE_BinOp {l r : Expr} {op : Operator} {pos : Pos} {a b : ED} {f : AV → AV → OD} (hf : SemO2 B R (binaryOp op) f) (ha : SemE B fc R l a) (hb : SemE B fc R r b) :
    SemE B fc R (.BinOp l op r pos) (Op2 f a b) := by
  intro env A st s Q X S d
  refine wpAny_BinOp (wpAny_mono (ha env A st s _ X S d) ?_ fun _ _ e => e)
  refine fun v₁ s₁ => PV.el fun av₁ st₁ S₁ x₁ r₁ q₁ => ?_
  refine wpAny_mono (hb env A st₁ s₁ _ X S₁ q₁) ?_ fun _ _ e => e.of x₁
  refine fun v₂ s₂ => PV.el fun av₂ st₂ S₂ x₂ r₂ q₂ => ?_
  refine wpAny_mono (hf A st₂.σ s₂ _ _ _ _ _ _ S₂.ao S₂.rh (RelV.ext x₂ _ r₁) r₂ q₂) (fun v s' h => ((PV.op S₂ h).of x₂).of x₁) fun v s' h => ((PX.op S₂ h).of x₂).of x₁

theorem SemE_Compare {l r : Expr} {op : CmpOp} {pos : Pos} {a b : ED} {f : AV → AV → OD} (hf : SemO2 B R (compareOp op) f) (ha : SemE B fc R l a) (hb : SemE B fc R r b) (hm : behindInMarks op r = false) :
    SemE B fc R (.Compare l [op] [r] pos) (Op2 f a b) := by
  intro env A st s Q X S d
  refine wpAny_Compare1 (wpAny_mono (ha env A st s _ X S d) ?_ fun _ _ e => e) hm
  refine fun v₁ s₁ => PV.el fun av₁ st₁ S₁ x₁ r₁ q₁ => ?_
  refine wpAny_mono (hb env A st₁ s₁ _ X S₁ q₁) ?_ fun _ _ e => e.of x₁
  refine fun v₂ s₂ => PV.el fun av₂ st₂ S₂ x₂ r₂ q₂ => ?_
  refine wpAny_mono (hf A st₂.σ s₂ _ _ _ _ _ _ S₂.ao S₂.rh (RelV.ext x₂ _ r₁) r₂ q₂) (fun v s' h => ((PV.op S₂ h).of x₂).of x₁) fun v s' h => ((PX.op S₂ h).of x₂).of x₁

theorem SemE_Subscript {l r : Expr} {pos : Pos} {a b : ED} {f : AV → AV → OD} (hf : SemO2 B R (subscriptTail l r) f) (ha : SemE B fc R l a) (hb : SemE B fc R r b) :
    SemE B fc R (.Subscript l r pos) (Op2 f a b) := by
  intro env A st s Q X S d
  refine Subscript_ (wpAny_mono (ha env A st s _ X S d) ?_ fun _ _ e => e)
  refine fun v₁ s₁ => PV.el fun av₁ st₁ S₁ x₁ r₁ q₁ => ?_
  refine wpAny_mono (hb env A st₁ s₁ _ X S₁ q₁) ?_ fun _ _ e => e.of x₁
  refine fun v₂ s₂ => PV.el fun av₂ st₂ S₂ x₂ r₂ q₂ => ?_
  refine wpAny_mono (hf A st₂.σ s₂ _ _ _ _ _ _ S₂.ao S₂.rh (RelV.ext x₂ _ r₁) r₂ q₂) (fun v s' h => ((PV.op S₂ h).of x₂).of x₁) fun v s' h => ((PX.op S₂ h).of x₂).of x₁

end
end Mine
-- MjC
namespace Mine

section
variable {B : Bs} {fc : FC} {R : Rm} {env : Env} {A : Around}

theorem slot_inj (e : EnvOk fc env) {i j : Nat} {x : Str} {k k' : SK} (hi : fc.slots[i]? = some (x, k)) (hj : fc.slots[j]? = some (x, k')) : i = j := by
  have h1 : (fc.slots.map (·.1))[i]? = some x := by simp [hi]
  have h2 : (fc.slots.map (·.1))[j]? = some x := by simp [hj]
  obtain ⟨l1, e1⟩ := List.getElem?_eq_some_iff.mp h1
  obtain ⟨l2, e2⟩ := List.getElem?_eq_some_iff.mp h2
  have nd := List.pairwise_iff_getElem.mp e.nodup
  rcases Nat.lt_trichotomy i j with q | q | q
  · exact absurd (e1.trans e2.symm) (nd i j l1 l2 q)
  · exact q
  · exact absurd (e2.trans e1.symm) (nd j i l2 l1 q)

theorem slot_lt {st : AS} {s : Shared} (F : RF B fc env st s) {i : Nat} {x : Str} {k : SK} (hi : fc.slots[i]? = some (x, k)) : i < st.m.length :=
  Nat.lt_of_lt_of_le (List.getElem?_eq_some_iff.mp hi).1 F.len

theorem store_loc {st : AS} {s : Shared} {x : Str} {i : Nat} {av : AV} {v : Value} {Q : Unit → Shared → Prop} {E : Value → Shared → Prop} (S : St B fc env A R st s) (r : RelV st.σ s.heap av v)
    (hk : fc.names.lookup x = some .local) (hi : fc.slots[i]? = some (x, .loc))
    (h : ∀ s', St B fc env A R ⟨lset st.m i (some av), st.σ⟩ s' → Ext (Wf fc env) st.σ s st.σ s' → Q () s') : wpAny B.M A (storeName env x v) Q E s := by
  obtain ⟨mm, n, hm⟩ := S.rf.ns
  refine wpAny_storeName_local ((S.eo.kindOf x).trans hk) n (fun h' n' sb => h _ ?_ ?_) (by rw [S.eo.kind]; rfl)
  all_goals have sb' : ∀ b o, b ≠ env.locals → s.heap.get? b = some o → h'.get? b = some o := fun b o hb e => (sb.2 b hb).trans e
  all_goals have x' : Ext (Wf fc env) st.σ s st.σ { s with heap := h', toks := s.toks + 1 } :=
    ⟨fun b o h1 h2 e => ⟨o, sb' b o (fun q => h2 (.inl q)) e, .refl o⟩, fun _ h1 h2 => absurd h1 h2, Nat.le_of_eq sb.1.symm, S.rf.nt⟩
  · have F' : RF B fc env ⟨lset st.m i (some av), st.σ⟩ { s with heap := h', toks := s.toks + 1 } := by
      refine ⟨by rw [lset_length]; exact S.rf.len, ⟨_, n', fun j y hj => ?_⟩, S.rf.nsN, fun j y k hj hkk => ?_⟩
      · rw [lget_lset]
        by_cases q : y = x
        · subst q
          have := slot_inj S.eo hi hj
          subst this
          rw [if_pos (And.intro rfl (slot_lt S.rf hi)), if_pos rfl]
          exact RelV.ext x' _ r
        · have : ¬ (i = j ∧ i < st.m.length) := fun z => q (by have := z.1; subst this; rw [hi] at hj; cases hj; rfl)
          rw [if_neg this, if_neg q]
          exact RelO.ext x' (hm j y hj)
      · obtain ⟨c, ov, h1, ⟨o, e, d⟩, h3, h4, h5⟩ := S.rf.cell j y k hj hkk
        have hc : c ≠ env.locals := fun z => by
          obtain ⟨o', es, ep, e', d', _⟩ := n
          rw [← z, e] at e'; cases e'; rw [d] at d'; cases d'
        rw [lget_lset]
        have : ¬ (i = j ∧ i < st.m.length) := fun z => by have := z.1; subst this; rw [hi] at hj; cases hj; exact hkk rfl
        rw [if_neg this]
        exact ⟨c, ov, h1, ⟨o, sb' c o hc e, d⟩, RelO.ext x' h3, h4, h5⟩
    refine ⟨S.rh.still x' (fun a ob ha e => sb' a ob (fun z => ha (z ▸ S.rf.nsN.1)) e) (fun b o hb e => sb' b o (fun z => absurd S.rf.nsN.2 (by subst z; exact Nat.not_le.mpr (Heap.lt_size hb))) e) rfl rfl, F', ?_, S.eo, S.fr⟩
    exact S.ao.ext x' (RF.hw S.rf S.ao F') (RF.hwh S.rf S.ao)
  · exact x'

theorem store_own {st : AS} {s : Shared} {x : Str} {i : Nat} {av : AV} {v : Value} {Q : Unit → Shared → Prop} {E : Value → Shared → Prop} (S : St B fc env A R st s) (r : RelV st.σ s.heap av v)
    (hk : fc.names.lookup x = some .cell) (hi : fc.slots[i]? = some (x, .own))
    (h : ∀ s', St B fc env A R ⟨lset st.m i (some av), st.σ⟩ s' → Ext (Wf fc env) st.σ s st.σ s' → Q () s') : wpAny B.M A (storeName env x v) Q E s := by
  obtain ⟨c, ov, hc, hcell, hr, hn, hN⟩ := S.rf.cell i x .own hi (by decide)
  obtain ⟨oc, ec, dc⟩ := id hcell
  have hcl : c ≠ env.locals := fun z => by
    obtain ⟨mm, ⟨o', es, ep, e', d', _⟩, _⟩ := S.rf.ns
    rw [← z, ec] at e'; cases e'; rw [dc] at d'; cases d'
  refine wpAny_storeName_cell S.eo.kind ((S.eo.kindOf x).trans hk) hc hcell (fun h' hc' sb => h _ ?_ ?_)
  all_goals have sb' : ∀ b o, b ≠ c → s.heap.get? b = some o → h'.get? b = some o := fun b o hb e => (sb.2 b hb).trans e
  all_goals have hW : Wf fc env c := .inr ⟨i, x, hi, hc⟩
  all_goals have x' : Ext (Wf fc env) st.σ s st.σ { s with heap := h' } :=
    ⟨fun b o h1 h2 e => ⟨o, sb' b o (fun q => h2 (q ▸ hW)) e, .refl o⟩, fun _ h1 h2 => absurd h1 h2, Nat.le_of_eq sb.1.symm, S.rf.nt⟩
  · have F' : RF B fc env ⟨lset st.m i (some av), st.σ⟩ { s with heap := h' } := by
      obtain ⟨mm, n, hm⟩ := S.rf.ns
      refine ⟨by rw [lset_length]; exact S.rf.len, ⟨mm, n.sameBut sb (Ne.symm hcl), fun j y hj => ?_⟩, S.rf.nsN, fun j y k hj hkk => ?_⟩
      · rw [lget_lset]
        have : ¬ (i = j ∧ i < st.m.length) := fun z => by have := z.1; subst this; rw [hi] at hj; cases hj
        rw [if_neg this]
        exact RelO.ext x' (hm j y hj)
      · obtain ⟨c', ov', h1, ⟨o, e, d⟩, h3, h4, h5⟩ := S.rf.cell j y k hj hkk
        rw [lget_lset]
        by_cases q : y = x
        · subst q
          have := slot_inj S.eo hi hj
          subst this
          rw [hc] at h1; cases h1
          rw [if_pos (And.intro rfl (slot_lt S.rf hi))]
          exact ⟨c, some v, hc, hc', RelV.ext x' _ r, hn, hN⟩
        · have hcc : c' ≠ c := fun z => q (S.eo.inj y x c (z ▸ h1) hc)
          have : ¬ (i = j ∧ i < st.m.length) := fun z => q (by have := z.1; subst this; rw [hi] at hj; cases hj; rfl)
          rw [if_neg this]
          exact ⟨c', ov', h1, ⟨o, sb' c' o hcc e, d⟩, RelO.ext x' h3, h4, h5⟩
    refine ⟨S.rh.still x' (fun a ob ha e => sb' a ob (fun z => ha (z ▸ hn)) e) (fun b o hb e => sb' b o (fun z => absurd hN (by subst z; exact Nat.not_le.mpr (Heap.lt_size hb))) e) rfl rfl, F', ?_, S.eo, S.fr⟩
    exact S.ao.ext x' (RF.hw S.rf S.ao F') (RF.hwh S.rf S.ao)
  · exact x'

noncomputable def TSet (i : Nat) : AV → AS → (AS → Prop) → QX → Prop := fun v st Q _ => Q ⟨lset st.m i (some v), st.σ⟩
theorem SemG_loc {x : Str} {pos : Pos} {i : Nat} (hk : fc.names.lookup x = some .local) (hi : fc.slots[i]? = some (x, .loc)) : SemG B fc R (.Name x pos) (TSet i) := by
  intro env A st s av v Q X S r d
  exact wpAny_assign_Name (store_loc S r hk hi fun s' S' x' => ⟨_, S', x', d⟩)
theorem SemG_own {x : Str} {pos : Pos} {i : Nat} (hk : fc.names.lookup x = some .cell) (hi : fc.slots[i]? = some (x, .own)) : SemG B fc R (.Name x pos) (TSet i) := by
  intro env A st s av v Q X S r d
  exact wpAny_assign_Name (store_own S r hk hi fun s' S' x' => ⟨_, S', x', d⟩)

noncomputable def Tst (f : AV → Sto → (Bool → Prop) → Prop) (a : ED) : BD := fun st Q X => a st (fun v st => f v st.σ (fun b => Q b st)) X
noncomputable def BNot (d : BD) : BD := fun st Q X => d st (fun b st => Q (!b) st) X
noncomputable def BAll : List BD → BD
  | [] => fun st Q _ => Q true st
  | d :: ds => fun st Q X => d st (fun b st => match b with | false => Q false st | true => BAll ds st Q X) X
noncomputable def BAny : List BD → BD
  | [] => fun st Q _ => Q false st
  | d :: ds => fun st Q X => d st (fun b st => match b with | true => Q true st | false => BAny ds st Q X) X

theorem SemB_val {e : Expr} {a : ED} {f : AV → Sto → (Bool → Prop) → Prop} (hf : SemT B R truthy f) (ha : SemE B fc R e a)
    (he : ∀ env, isTrue e env (eval e env) = (do let v ← eval e env; standAt e.pos; holding [v] (truthy v))) : SemB B fc R e (Tst f a) := by
  intro env A st s Q X S d
  rw [he env]
  refine wpAny_bind (wpAny_mono (ha env A st s _ X S d) ?_ fun _ _ e => e)
  refine fun v₁ s₁ => PV.el fun av₁ st₁ S₁ x₁ r₁ q₁ => ?_
  refine wpAny_bind (wpAny_standAt (wpAny_holding ?_))
  refine wpAny_mono (hf A st₁.σ s₁ _ _ _ (PX B fc env A R st s X) S₁.ao S₁.rh r₁ q₁) ?_ fun _ _ e => e
  rintro b s₂ ⟨h1, h2, h3⟩
  exact ⟨st₁, S₁.op h1 h2, x₁.trans (S₁.extW h2), h3⟩
theorem SemB_cmp {l r : Expr} {op : CmpOp} {pos : Pos} {a b : ED} {g : AV → AV → OD} {f : AV → Sto → (Bool → Prop) → Prop} (hg : SemO2 B R (compareOp op) g) (hf : SemT B R truthy f) (ha : SemE B fc R l a) (hb : SemE B fc R r b)
    (hm : behindInMarks op r = false) : SemB B fc R (.Compare l [op] [r] pos) (Tst f (Op2 g a b)) := by
  intro env A st s Q X S d
  refine wpAny_isTrue_Compare1 (wpAny_mono (ha env A st s _ X S d) ?_ fun _ _ e => e) hm
  refine fun v₁ s₁ => PV.el fun av₁ st₁ S₁ x₁ r₁ q₁ => ?_
  refine wpAny_mono (hb env A st₁ s₁ _ X S₁ q₁) ?_ fun _ _ e => e.of x₁
  refine fun v₂ s₂ => PV.el fun av₂ st₂ S₂ x₂ r₂ q₂ => ?_
  refine wpAny_mono (hg A st₂.σ s₂ _ _ _ _ _ _ S₂.ao S₂.rh (RelV.ext x₂ _ r₁) r₂ q₂) (fun v s' h => ?_) fun v s' h => ((PX.op S₂ h).of x₂).of x₁
  obtain ⟨av₃, σ₃, h1, h2, h3, h4⟩ := h
  have S₃ := S₂.op h1 h2
  refine wpAny_mono (hf A σ₃ s' _ _ _ (PX B fc env A R st s X) S₃.ao S₃.rh h3 h4) ?_ fun _ _ e => e
  rintro b s₄ ⟨k1, k2, k3⟩
  exact ⟨_, S₃.op k1 k2, ((x₁.trans x₂).trans (S₂.extW h2)).trans (S₃.extW k2), k3⟩
theorem SemB_not {e : Expr} {pos : Pos} {d : BD} (h : SemB B fc R e d) : SemB B fc R (.UnaryOp .Not e pos) (BNot d) := by
  intro env A st s Q X S q
  show wpAny B.M A (do return !(← isTrue e env (eval e env))) _ _ s
  refine wpAny_bind (wpAny_mono (h env A st s _ X S q) ?_ fun _ _ e => e)
  rintro b s₁ h₁
  exact wpAny_pure (let ⟨st, a, b, c⟩ := h₁; ⟨st, a, b, c⟩)

noncomputable def SemBs (B : Bs) (fc : FC) (R : Rm) (op : BoolOp) (es : List Expr) (d : BD) : Prop :=
  ∀ env A st s Q X, St B fc env A R st s → d st Q X → wpAny B.M A (allTrue op es env) (PB B fc env A R st s Q) (PX B fc env A R st s X) s
theorem SemBs_nilA : SemBs B fc R .And [] (BAll []) := by
  intro env A st s Q X S d
  exact wpAny_pure ⟨st, S, S.refl, d⟩
theorem SemBs_nilO : SemBs B fc R .Or [] (BAny []) := by
  intro env A st s Q X S d
  exact wpAny_pure ⟨st, S, S.refl, d⟩
theorem SemBs_consA {e : Expr} {es : List Expr} {d : BD} {ds : List BD} (h : SemB B fc R e d) (hs : SemBs B fc R .And es (BAll ds)) : SemBs B fc R .And (e :: es) (BAll (d :: ds)) := by
  intro env A st s Q X S q
  show wpAny B.M A (do
    match BoolOp.And, ← isTrue e env (eval e env) with
    | .And, false => pure false
    | .Or, true => pure true
    | _, _ => allTrue .And es env) _ _ s
  refine wpAny_bind (wpAny_mono (h env A st s _ X S q) ?_ fun _ _ e => e)
  refine fun b s₁ => PB.el fun st₁ S₁ x₁ q₁ => ?_
  cases b with
  | false => exact wpAny_pure ⟨st₁, S₁, x₁, q₁⟩
  | true => exact wpAny_mono (hs env A st₁ s₁ _ X S₁ q₁) (fun _ _ e => e.of x₁) fun _ _ e => e.of x₁
theorem SemBs_consO {e : Expr} {es : List Expr} {d : BD} {ds : List BD} (h : SemB B fc R e d) (hs : SemBs B fc R .Or es (BAny ds)) : SemBs B fc R .Or (e :: es) (BAny (d :: ds)) := by
  intro env A st s Q X S q
  show wpAny B.M A (do
    match BoolOp.Or, ← isTrue e env (eval e env) with
    | .And, false => pure false
    | .Or, true => pure true
    | _, _ => allTrue .Or es env) _ _ s
  refine wpAny_bind (wpAny_mono (h env A st s _ X S q) ?_ fun _ _ e => e)
  refine fun b s₁ => PB.el fun st₁ S₁ x₁ q₁ => ?_
  cases b with
  | true => exact wpAny_pure ⟨st₁, S₁, x₁, q₁⟩
  | false => exact wpAny_mono (hs env A st₁ s₁ _ X S₁ q₁) (fun _ _ e => e.of x₁) fun _ _ e => e.of x₁
theorem SemB_bool {op : BoolOp} {es : List Expr} {pos : Pos} {d : BD} (h : SemBs B fc R op es d) : SemB B fc R (.BoolOp op es pos) d := h

noncomputable def SNext : SD := fun st Q _ => Q .next st
noncomputable def SSeq (a b : SD) : SD := fun st Q X => a st (fun o st => match o with | .next => b st Q X | o => Q o st) X
noncomputable def SRet (a : ED) : SD := fun st Q X => a st (fun v st => Q (.ret v) st) X
noncomputable def SDo (a : ED) : SD := fun st Q X => a st (fun _ st => Q .next st) X
noncomputable def SAsg (g : AV → AS → (AS → Prop) → QX → Prop) (a : ED) : SD := fun st Q X => a st (fun v st => g v st (fun st => Q .next st) X) X
noncomputable def SIf (c : BD) (a b : SD) : SD := fun st Q X => c st (fun t st => (t = true → a st Q X) ∧ (t = false → b st Q X)) X

theorem SemSs_nil : SemSs B fc R [] SNext := by
  intro env A st s Q X S d
  exact wpAny_execs_nil ⟨.next, st, S, S.refl, rfl, d⟩
theorem SemSs_cons {c : Stmt} {cs : List Stmt} {a b : SD} (h : SemS B fc R c a) (hs : SemSs B fc R cs b) : SemSs B fc R (c :: cs) (SSeq a b) := by
  intro env A st s Q X S d
  refine wpAny_execs_cons (wpAny_mono (h env A st s _ X S d) ?_ fun _ _ e => e)
  refine fun f s₁ => PF.el fun o st₁ S₁ x₁ r₁ q₁ => ?_
  cases o with
  | next => cases r₁; exact wpAny_mono (hs env A st₁ s₁ _ X S₁ q₁) (fun _ _ e => e.of x₁) fun _ _ e => e.of x₁
  | brk => cases r₁; exact ⟨.brk, st₁, S₁, x₁, rfl, q₁⟩
  | cont => cases r₁; exact ⟨.cont, st₁, S₁, x₁, rfl, q₁⟩
  | ret a => obtain ⟨v, rfl, r⟩ := r₁; exact ⟨.ret a, st₁, S₁, x₁, ⟨v, rfl, r⟩, q₁⟩
theorem SemSs_one {c : Stmt} {a : SD} (h : SemS B fc R c a) : SemSs B fc R [c] a := by
  intro env A st s Q X S d
  refine wpAny_execs_cons (wpAny_mono (h env A st s _ X S d) ?_ fun _ _ e => e)
  refine fun f s₁ => PF.el fun o st₁ S₁ x₁ r₁ q₁ => ?_
  cases o with
  | next => cases r₁; exact wpAny_execs_nil ⟨.next, st₁, S₁, x₁, rfl, q₁⟩
  | brk => cases r₁; exact ⟨.brk, st₁, S₁, x₁, rfl, q₁⟩
  | cont => cases r₁; exact ⟨.cont, st₁, S₁, x₁, rfl, q₁⟩
  | ret a => obtain ⟨v, rfl, r⟩ := r₁; exact ⟨.ret a, st₁, S₁, x₁, ⟨v, rfl, r⟩, q₁⟩
noncomputable def SBrk : SD := fun st Q _ => Q .brk st
noncomputable def SCont : SD := fun st Q _ => Q .cont st
theorem SemS_break {pos : Pos} : SemS B fc R (.Break pos) SBrk := by
  intro env A st s Q X S d
  show wpAny B.M A (do standAt pos; pure Flow.brk) _ _ s
  exact wpAny_bind (wpAny_standAt (wpAny_pure ⟨.brk, st, S, S.refl, rfl, d⟩))
theorem SemS_cont {pos : Pos} : SemS B fc R (.Continue pos) SCont := by
  intro env A st s Q X S d
  show wpAny B.M A (do standAt pos; pure Flow.cont) _ _ s
  exact wpAny_bind (wpAny_standAt (wpAny_pure ⟨.cont, st, S, S.refl, rfl, d⟩))
theorem SemS_ret {e : Expr} {pos : Pos} {a : ED} (h : SemE B fc R e a) : SemS B fc R (.Return (some e) pos) (SRet a) := by
  intro env A st s Q X S d
  refine wpAny_Return_some (wpAny_mono (h env A st s _ X S d) ?_ fun _ _ e => e)
  refine fun v₁ s₁ => PV.el fun av₁ st₁ S₁ x₁ r₁ q₁ => ?_
  exact ⟨.ret av₁, st₁, S₁, x₁, ⟨v₁, rfl, r₁⟩, q₁⟩
theorem EnvOk.int (e : EnvOk fc env) : interactive env = false := by unfold interactive; rw [e.kind]; rfl
theorem SemS_expr {e : Expr} {pos : Pos} {a : ED} (h : SemE B fc R e a) (hs : ∀ env, swapsWith e none pos.line env = pure false) : SemS B fc R (.Expr e pos) (SDo a) := by
  intro env A st s Q X S d
  refine wpAny_Expr_any (wpAny_mono (h env A st s _ X S d) ?_ fun _ _ e => e) S.eo.int (hs env)
  refine fun v₁ s₁ => PV.el fun av₁ st₁ S₁ x₁ r₁ q₁ => ?_
  exact PF.mk .next st₁ S₁ (x₁) rfl q₁
theorem SemS_if {e : Expr} {c₁ c₂ : List Stmt} {pos : Pos} {t : BD} {a b : SD} (h : SemB B fc R e t) (ha : SemSs B fc R c₁ a) (hb : SemSs B fc R c₂ b) : SemS B fc R (.If e c₁ c₂ pos) (SIf t a b) := by
  intro env A st s Q X S d
  refine wpAny_If (wpAny_mono (h env A st s _ X S d) ?_ fun _ _ e => e)
  refine fun t s₁ => PB.el fun st₁ S₁ x₁ qq => ?_
  obtain ⟨q₁, q₂⟩ := qq
  cases t with
  | true => exact wpAny_mono (ha env A st₁ s₁ _ X S₁ (q₁ rfl)) (fun _ _ e => e.of x₁) fun _ _ e => e.of x₁
  | false => exact wpAny_mono (hb env A st₁ s₁ _ X S₁ (q₂ rfl)) (fun _ _ e => e.of x₁) fun _ _ e => e.of x₁

theorem SemS_assign {t value : Expr} {pos : Pos} {a : ED} {g : AV → AS → (AS → Prop) → QX → Prop} (h : SemE B fc R value a) (hg : SemG B fc R t g)
    (hs : ∀ env, EnvOk fc env → swapsWith value (some t) pos.line env = pure false) (hw : ∀ env, swappedStores [t] value env = pure none) (hst : ∀ env, assignEach [t] env = [(false, assign t env)]) : SemS B fc R (.Assign [t] value pos) (SAsg g a) := by
  intro env A st s Q X S d
  have e : exec (.Assign [t] value pos) env = (do
    standAt pos
    if ← swapsWithSole [t] value pos.line env then do
      evalThenUse value env fun v => assignAll v ((assignEach [t] env).map (·.2))
      pure .next
    else do
      let v ← eval value env
      assignStores env v (← swappedStores [t] value env) ((assignEach [t] env).map (·.2))) := rfl
  rw [e]
  refine wpAny_bind (wpAny_standAt (wpAny_bind (wpAny_of_eq (hs env S.eo) ?_)))
  refine wpAny_bind (wpAny_mono (h env A st s _ X S d) ?_ fun _ _ e => e)
  refine fun v₁ s₁ => PV.el fun av₁ st₁ S₁ x₁ r₁ q₁ => ?_
  refine wpAny_bind (wpAny_of_eq (hw env) ?_)
  rw [hst env]
  show wpAny B.M A (do assign t env v₁; pure Flow.next) _ _ s₁
  refine wpAny_bind (wpAny_mono (hg env A st₁ s₁ _ _ _ X S₁ r₁ q₁) ?_ fun _ _ e => e.of x₁)
  refine fun _ s₂ => PU.el fun st₂ S₂ x₂ q₂ => ?_
  exact wpAny_pure ⟨.next, st₂, S₂, x₁.trans x₂, rfl, q₂⟩
end
end Mine
-- MjD
namespace Mine

section
variable {B : Bs} {fc : FC} {R : Rm} {env : Env} {A : Around}

theorem xcls_tb : XCls (.type "traceback") := ⟨by decide, by decide, by decide, by decide, by decide⟩

theorem St.moveX {P : Addr → Prop} {st : AS} {s s' : Shared} (S : St B fc env A R st s)
    (hk : ∀ b o, s.heap.get? b = some o → st.σ b = Option.none → ¬ P b → ∃ o', s'.heap.get? b = some o' ∧ KeptO o o')
    (hkt : ∀ a ob, st.σ a ≠ Option.none → s.heap.get? a = some ob → s'.heap.get? a = some ob)
    (hko : ∀ b o, B.h₀.get? b = some o → s.heap.get? b = some o → s'.heap.get? b = some o)
    (hP : ∀ b, P b → ∃ o vs, s.heap.get? b = some o ∧ o.data = .fields vs ∧ ¬ ImmO o)
    (hh : ∀ b, P b → A.handled ≠ some (.ref b)) (hz : s.heap.objs.size ≤ s'.heap.objs.size) (hg : s'.gens = s.gens) (ho : s'.os = s.os) :
    St B fc env A R st s' ∧ Ext P st.σ s st.σ s' := by
  have x : Ext P st.σ s st.σ s' := ⟨fun b o h1 h2 e => hk b o e h1 h2, fun _ h1 h2 => absurd h1 h2, hz, fun a o hp e => by
    obtain ⟨o', vs, e', d, hi⟩ := hP a hp
    rw [e] at e'; cases e'; exact hi⟩
  have notP : ∀ b o, s.heap.get? b = some o → (∀ vs, o.data ≠ .fields vs) → ¬ P b := fun b o e d hp => by
    obtain ⟨o', vs, e', d', _⟩ := hP b hp
    rw [e] at e'; cases e'; exact d vs d'
  refine ⟨⟨S.rh.still x hkt hko hg ho, ⟨S.rf.len, ?_, S.rf.nsN, fun i y k hi hkk => ?_⟩, S.ao.ext x (fun b hp ⟨env', L, hm, hf, e⟩ => ?_) hh, S.eo, S.fr⟩, x⟩
  · obtain ⟨mm, n, h⟩ := S.rf.ns
    refine ⟨mm, Ns.kept n fun o e => hk _ o e S.rf.nsN.1 ?_, fun i x' hi => RelO.ext x (h i x' hi)⟩
    obtain ⟨o', es, ep, e', d', _⟩ := n
    rw [e] at e'; cases e'
    exact notP _ _ e fun vs z => by rw [d'] at z; cases z
  · obtain ⟨c, ov, h1, ⟨o', e', d'⟩, h3, h4, h5⟩ := S.rf.cell i y k hi hkk
    have q := x.stays h4 (notP _ _ e' fun vs z => by rw [d'] at z; cases z) e' (fun _ _ z => by rw [d'] at z; cases z)
    exact ⟨c, ov, h1, ⟨o', q.1, d'⟩, RelO.ext x h3, h4, h5⟩
  · obtain ⟨l, h1, h2, h3⟩ := S.ao.frames
    rw [h1] at hm
    obtain ⟨_, o, es, n, ho', hd⟩ := h3 env' hm _ hf
    subst e
    exact absurd hp (notP _ _ ho' fun vs z => by rw [hd] at z; cases z)

theorem frameOf_ok {st : AS} {s : Shared} {Q : Value → Shared → Prop} {E : Value → Shared → Prop} (S : St B fc env A R st s)
    (h : ∀ h' L, env.frame = some L → h'.objs.size = s.heap.objs.size → (∀ b o, s.heap.get? b = some o → ∃ o', h'.get? b = some o' ∧ KeptO o o') → (∀ b o, st.σ b ≠ Option.none ∨ B.h₀.get? b ≠ Option.none → s.heap.get? b = some o → h'.get? b = some o) →
      Q (.ref L) { s with heap := h' }) : wpAny B.M A (PySem.frameOf env) Q E s := by
  obtain ⟨env₀, outer, L, hfr, hf0, hfL⟩ := S.fr
  obtain ⟨l, hl, hfun, hdata⟩ := S.ao.frames
  rw [hfr] at hl; cases hl
  unfold PySem.frameOf
  refine wpAny_bind (wpAny_frameEnvs hfr ?_)
  have hdw : ((env₀ :: outer).dropWhile fun x => x.frame != env.frame) = env₀ :: outer := by simp [List.dropWhile, hf0]
  rw [hdw]
  unfold frameObject
  refine wpAny_bind (wpAny_bind (wpAny_readyFrames_fun hfun fun h₁ hs₁ => wpAny_pure ?_))
  rw [hf0, hfL]
  have mem : ∀ b, b ∈ (env₀ :: outer).filterMap (·.frame) → st.σ b = Option.none ∧ B.h₀.get? b = Option.none ∧ ∃ o es n, s.heap.get? b = some o ∧ o.data = .dict es n := fun b hb => by
    obtain ⟨e, he, hq⟩ := List.mem_filterMap.mp hb
    obtain ⟨h1, h2⟩ := hdata e he b hq
    exact ⟨h1, (hfun.mem hb).1, h2⟩
  refine wpAny_pure (h h₁ L hfL hs₁.1 (fun b o e => ?_) fun b o hb e => ?_)
  · by_cases hb : b ∈ (env₀ :: outer).filterMap (·.frame)
    · obtain ⟨_, _, o', es, n, e', d⟩ := mem b hb
      rw [e] at e'; cases e'
      obtain ⟨sl, hs⟩ := hs₁.2.2 b o e
      exact ⟨_, hs, .inr ⟨⟨es, n, d⟩, sl, rfl⟩⟩
    · exact ⟨o, (hs₁.2.1 b hb).trans e, .refl o⟩
  · refine (hs₁.2.1 b fun hm => ?_).trans e
    obtain ⟨h1, h2, o', es, n, e', d⟩ := mem b hm
    rcases hb with q | q
    · exact q h1
    · exact q h2

noncomputable def PXn (B : Bs) (fc : FC) (env : Env) (A : Around) (R : Rm) (st : AS) (s : Shared) (X : QX) (e : Value) (s' : Shared) : Prop := PX B fc env A R st s X e s' ∧ Noted s'.heap e

theorem Ext.transX {W P : Addr → Prop} {σ σ' σ'' : Sto} {s s' s'' : Shared} (x : Ext W σ s σ' s') (y : Ext P σ' s' σ'' s'') (hP : ∀ b, P b → s.heap.objs.size ≤ b) : Ext W σ s σ'' s'' where
  keep := fun b o h1 h2 e => by
    obtain ⟨o', e', k⟩ := x.keep b o h1 h2 e
    have h3 : σ' b = Option.none := by
      cases q : σ' b with
      | none => rfl
      | some z => exact absurd (x.dom b h1 (by rw [q]; exact fun h => nomatch h)) (Nat.not_le.mpr (Heap.lt_size e))
    obtain ⟨o'', e'', k'⟩ := y.keep b o' h3 (fun hp => absurd (hP b hp) (Nat.not_le.mpr (Heap.lt_size e))) e'
    exact ⟨o'', e'', k.trans k'⟩
  dom := fun a h1 h2 => by
    cases q : σ' a with
    | none => exact Nat.le_trans x.size (y.dom a q h2)
    | some z => exact x.dom a h1 (by rw [q]; exact fun h => nomatch h)
  size := Nat.le_trans x.size y.size
  nt := x.nt

theorem AOk.older {σ : Sto} {s : Shared} (a : AOk B A R σ s) {b : Addr} (hb : s.heap.objs.size ≤ b) : A.handled ≠ some (.ref b) := fun q => by
  rcases a.handled with ⟨h, _⟩ | ⟨e, _, o, vs, _, _, h1, h2, _⟩
  · rw [h] at q; cases q
  · rw [h1] at q; cases q; exact absurd (Heap.lt_size h2) (Nat.not_lt.mpr hb)

theorem set_young {st : AS} {s s' : Shared} {a : Addr} {oa : Obj} {vs : Array Value} {i : Nat} {v : Value} {Q : Unit → Shared → Prop} {E : Value → Shared → Prop} (S : St B fc env A R st s) (hh : A.handled ≠ some (.ref a))
    (ha : s.heap.get? a = some oa) (hd : oa.data = .fields vs) (hi : i < vs.size) (hn : st.σ a = Option.none) (hN : B.h₀.objs.size ≤ a) (hc : XCls oa.cls)
    (h : ∀ s', St B fc env A R st s' → Ext (· = a) st.σ s st.σ s' → (∀ b, b ≠ a → s'.heap.get? b = s.heap.get? b) → s'.heap.get? a = some (Obj.mapFields (·.setIfInBounds i v) oa) → s'.heap.objs.size = s.heap.objs.size → Q () s') :
    wpAny B.M A (setField (.ref a) i v) Q E s := by
  refine wpAny_setField ha hd hi ?_
  have hd' := Obj.data_mapFields hd (·.setIfInBounds i v)
  have he := Heap.get?_update_self (Obj.mapFields (·.setIfInBounds i v)) ha (Obj.isFreed_of_fields hd')
  have other : ∀ b, b ≠ a → (s.heap.update a (Obj.mapFields (·.setIfInBounds i v))).get? b = s.heap.get? b := fun b hb => Heap.get?_update_other _ _ (Ne.symm hb)
  have hz : (s.heap.update a (Obj.mapFields (·.setIfInBounds i v))).objs.size = s.heap.objs.size := (Heap.SameBut.update ..).1
  obtain ⟨S', x'⟩ := St.moveX (P := (· = a)) (s' := { s with heap := s.heap.update a (Obj.mapFields (·.setIfInBounds i v)) }) S (fun b o e h1 h2 => ⟨o, (other b h2).trans e, .refl o⟩)
    (fun b ob hb e => (other b fun z => hb (z ▸ hn)).trans e) (fun b o hb e => (other b fun z => absurd (Heap.lt_size hb) (by subst z; exact Nat.not_lt.mpr hN)).trans e)
    (fun b hb => ⟨oa, vs, by rw [hb]; exact ha, hd, hc.imm⟩) (fun b hb => by rw [hb]; exact hh) (Nat.le_of_eq hz.symm) rfl rfl
  exact h _ S' x' other he hz

theorem noteFrame_ok {st : AS} {s : Shared} {n : Nat} {e : Value} {x : AX} {Q : Unit → Shared → Prop} {E : Value → Shared → Prop} (S : St B fc env A R st s) (r : RelX st.σ s.heap n e x)
    (hn : B.h₀.objs.size ≤ n) (hnz : n ≤ s.heap.objs.size) (hh : ∀ b, n ≤ b → A.handled ≠ some (.ref b))
    (h : ∀ s' P, St B fc env A R st s' → (∀ b, P b → n ≤ b) → Ext P st.σ s st.σ s' → RelX st.σ s'.heap n e x → Noted s'.heap e → Q () s') : wpAny B.M A (noteFrame e env) Q E s := by
  obtain ⟨ea, oe, vs, tv, rfl, h2, h3, h4, h5, h6, h7, h8, h9, hc, h10⟩ := r
  obtain ⟨env₀, outer, L, hfr, hf0, hfL⟩ := S.fr
  have hv1 : 1 < vs.size := by
    rcases h10 with q | ⟨T, oT, ts, q, _⟩ <;> exact (Array.getElem?_eq_some_iff.mp q).1
  have fin : ∀ (s₁ : Shared) (head : Value) (hadNext : Bool) (P₁ : Addr → Prop), St B fc env A R st s₁ → (∀ b, P₁ b → n ≤ b) → Ext P₁ st.σ s st.σ s₁ → s₁.heap.get? ea = some oe → RelV st.σ s₁.heap (.tup x.args) tv → n ≤ s₁.heap.objs.size →
      wpAny B.M A (do let a ← PySem.frameOf env; let pl ← entryPlaceOf L hadNext; let b ← EntryCells.newEntry head a .none (rawInt L) .none pl; setField (.ref ea) 1 b) Q E s₁ := by
    intro s₁ head hadNext P₁ S₁ hP₁ x₁ e₁ r₁ hz₁
    refine wpAny_bind (frameOf_ok S₁ fun h₂ L' hL' z₂ k₂ kt₂ => ?_)
    rw [hfL] at hL'; cases hL'
    refine wpAny_bind (wpAny_entryPlaceOf fun pl hpl => ?_)
    unfold EntryCells.newEntry newFields
    refine wpAny_bind (wpAny_newObj_type ?_ (hpl.sizeOk5 _ _ _ _ _))
    have pushed : ∀ b o, h₂.get? b = some o → (h₂.push { cls := .type "traceback", dict := none, data := .fields ([head, .ref L, .none, rawInt L, .none] ++ (if pl.isEmpty then List.replicate 6 Value.none else pl)).toArray }).get? b = some o := fun b o e => Heap.get?_push_of_some _ e
    obtain ⟨S₃, x₃⟩ := St.moveX (P := NoW) (s' := { s₁ with heap := h₂.push { cls := .type "traceback", dict := none, data := .fields ([head, .ref L, .none, rawInt L, .none] ++ (if pl.isEmpty then List.replicate 6 Value.none else pl)).toArray } }) S₁
      (fun b o e _ _ => by obtain ⟨o', e', k⟩ := k₂ b o e; exact ⟨o', pushed b o' e', k⟩) (fun a ob ha e => pushed a ob (kt₂ a ob (.inl ha) e)) (fun b o hb e => pushed b o (kt₂ b o (.inr (by rw [hb]; exact fun z => nomatch z)) e))
      (fun _ h => h.elim) (fun _ h => h.elim) (by show s₁.heap.objs.size ≤ (h₂.push _).objs.size; rw [Heap.size_push, z₂]; exact Nat.le_succ _) rfl rfl
    have he₃ : (h₂.push { cls := .type "traceback", dict := none, data := .fields ([head, .ref L, .none, rawInt L, .none] ++ (if pl.isEmpty then List.replicate 6 Value.none else pl)).toArray }).get? ea = some oe := by
      obtain ⟨o', e', k⟩ := k₂ ea oe e₁
      rw [k.eq fun es n z => by rw [h4] at z; cases z] at e'
      exact pushed _ _ e'
    have hT₃ := Heap.get?_push_size h₂ (o := { cls := .type "traceback", dict := none, data := .fields ([head, .ref L, .none, rawInt L, .none] ++ (if pl.isEmpty then List.replicate 6 Value.none else pl)).toArray }) rfl
    have hTe : h₂.objs.size ≠ ea := fun z => by
      have := Heap.lt_size e₁
      rw [← z₂, z] at this; exact Nat.lt_irrefl _ this
    refine set_young (s' := s₁) S₃ (hh ea h9) he₃ h4 hv1 h8 (Nat.le_trans hn h9) hc fun s₄ S₄ x₄ o₄ a₄ z₄ => ?_
    have hTn : n ≤ h₂.objs.size := by rw [z₂]; exact hz₁
    have hσT : st.σ h₂.objs.size = Option.none := by
      cases q : st.σ h₂.objs.size with
      | none => rfl
      | some z =>
        obtain ⟨ob, e⟩ := (S₁.rh.sto _ _ q).there
        have := Heap.lt_size e
        rw [z₂] at this; exact absurd this (Nat.lt_irrefl _)
    have hd₄ := Obj.data_mapFields h4 (·.setIfInBounds 1 (Value.ref h₂.objs.size))
    have hT₄ : s₄.heap.get? h₂.objs.size = some { cls := .type "traceback", dict := none, data := .fields ([head, .ref L, .none, rawInt L, .none] ++ (if pl.isEmpty then List.replicate 6 Value.none else pl)).toArray } := (o₄ _ hTe).trans hT₃
    refine h s₄ (fun b => P₁ b ∨ b = ea) S₄ (fun b hb => hb.elim (hP₁ b) fun z => z ▸ h9) ?_ ?_ ?_
    · have y : Ext (fun b => P₁ b ∨ b = ea) st.σ s st.σ s₁ := ⟨fun b o q1 q2 e => x₁.keep b o q1 (fun z => q2 (.inl z)) e, x₁.dom, x₁.size, fun a o hp e => hp.elim (fun z => x₁.nt a o z e) fun z => by subst z; rw [h2] at e; cases e; exact hc.imm⟩
      have y' : Ext (fun b => P₁ b ∨ b = ea) st.σ s st.σ s₄ := ⟨fun b o q1 q2 e => by
          obtain ⟨o', e', k⟩ := y.keep b o q1 q2 e
          have q1' : st.σ b = Option.none := q1
          obtain ⟨o'', e'', k'⟩ := x₃.keep b o' q1' (fun z => z) e'
          obtain ⟨o3, e3, k3⟩ := x₄.keep b o'' q1' (fun z => q2 (.inr z)) e''
          exact ⟨o3, e3, (k.trans k').trans k3⟩, fun _ h1 h2 => absurd h1 h2, Nat.le_trans y.size (Nat.le_trans x₃.size x₄.size), y.nt⟩
      exact y'
    · refine ⟨ea, _, _, tv, rfl, a₄, (Obj.cls_mapFields ..).trans h3, hd₄, ?_, RelV.ext x₄ _ (RelV.ext x₃ _ r₁), ?_, h8, h9, by rw [Obj.cls_mapFields]; exact hc, .inr ⟨h₂.objs.size, _, _, ?_, hT₄, rfl, ?_, hσT, hTn, hTe, ?_⟩⟩
      · rw [Array.getElem?_setIfInBounds_ne (by decide)]; exact h5
      · rw [Array.getElem?_setIfInBounds_ne (by decide)]; exact h7
      · rw [Array.getElem?_setIfInBounds_self_of_lt hv1]
      · simp only [List.size_toArray, List.length_append, List.length_cons, List.length_nil]; omega
      · exact xcls_tb
    · exact ⟨ea, _, _, h₂.objs.size, rfl, a₄, hd₄, by rw [Array.getElem?_setIfInBounds_self_of_lt hv1]⟩
  unfold noteFrame
  simp only [hfL]
  rcases h10 with q | ⟨T, oT, ts, q, hT, hdT, hs3, hσT, hnT, hTe, hcT⟩
  · refine wpAny_bind (wpAny_field h2 h4 q ?_)
    rw [if_neg (by decide)]
    exact fin s .none _ NoW S (fun _ h => h.elim) (Ext.refl ..) h2 h6 hnz
  · refine wpAny_bind (wpAny_field h2 h4 q ?_)
    rw [if_pos (show (Value.ref T != Value.none) = true from by simp)]
    obtain ⟨v3, hv3⟩ : ∃ v3, ts[3]? = some v3 := ⟨ts[3], Array.getElem?_eq_getElem hs3⟩
    refine wpAny_bind (wpAny_field hT hdT hv3 ?_)
    by_cases hq : (v3 == rawInt L) = true
    · rw [if_pos hq]
      refine wpAny_pure (h s NoW S (fun _ h => h.elim) (Ext.refl ..) ⟨ea, oe, vs, tv, rfl, h2, h3, h4, h5, h6, h7, h8, h9, hc, .inr ⟨T, oT, ts, q, hT, hdT, hs3, hσT, hnT, hTe, hcT⟩⟩ ⟨ea, oe, vs, T, rfl, h2, h4, q⟩)
    · rw [if_neg hq]
      refine wpAny_bind (set_young (s' := s) S (hh T hnT) hT hdT hs3 hσT (Nat.le_trans hn hnT) hcT fun s₁ S₁ x₁ o₁ a₁ z₁ => ?_)
      exact fin s₁ (.ref T) _ (· = T) S₁ (fun b hb => hb ▸ hnT) x₁ ((o₁ ea (Ne.symm hTe)).trans h2) (RelV.ext x₁ _ h6) (z₁ ▸ hnz)

theorem PX.noted {st : AS} {s s' : Shared} {X : QX} {e : Value} {E : Value → Shared → Prop} (S : St B fc env A R st s) (h : PX B fc env A R st s X e s') : wpAny B.M A (noteFrame e env) (fun _ s'' => PXn B fc env A R st s X e s'') E s' := by
  obtain ⟨x, st', S', y, r, q⟩ := h
  refine noteFrame_ok S' r S.rh.size y.size (fun b hb => S.ao.older hb) fun s'' P S'' hP z r' nt => ⟨⟨x, st', S'', y.transX z hP, r', q⟩, nt⟩

theorem PXn.cameBack {st : AS} {s s' : Shared} {X : QX} {e : Value} {E : Value → Shared → Prop} (S : St B fc env A R st s) (h : PXn B fc env A R st s X e s') :
    wpAny B.M A (do
      if (← field e 1) == .none then unsupported "frame.own-activation:exception-without-traceback"
      setFlight e env.frame) (fun _ s'' => PX B fc env A R st s X e s'') E s' := by
  obtain ⟨⟨x, st', S', y, ⟨ea, oe, vs, tv, rfl, h2, h3, h4, h5, h6, h7, h8, h9, hc, h10⟩, q⟩, ⟨ea', oe', vs', T', e1, e2, e3, e4⟩⟩ := h
  cases e1
  rw [h2] at e2; cases e2
  rw [h4] at e3; cases e3
  rcases h10 with z | ⟨T, oT, ts, hq, hT, hdT, hs3, hσT, hnT, hTe, hcT⟩
  · rw [z] at e4; cases e4
  · refine wpAny_bind (wpAny_field h2 h4 hq ?_)
    rw [if_neg (by simp)]
    unfold setFlight
    refine wpAny_bind (wpAny_field h2 h4 hq ?_)
    rw [if_pos (show (Value.ref T != Value.none) = true from by simp)]
    refine set_young (s' := s) S' (S.ao.older hnT) hT hdT hs3 hσT (Nat.le_trans S.rh.size hnT) hcT fun s₁ S₁ x₁ o₁ a₁ z₁ => ?_
    refine ⟨x, st', S₁, y.transX x₁ (fun b hb => hb ▸ hnT), ⟨ea, oe, vs, tv, rfl, (o₁ ea (Ne.symm hTe)).trans h2, h3, h4, h5, RelV.ext x₁ _ h6, h7, h8, h9, hc, .inr ⟨T, _, _, hq, a₁, Obj.data_mapFields hdT _, by simp [hs3], hσT, hnT, hTe, by rw [Obj.cls_mapFields]; exact hcT⟩⟩, q⟩
end
end Mine
-- MjE
namespace Mine

structure HInv (P : Heap → Prop) : Prop where
  push : ∀ h o, P h → P (h.push o)
  upd : ∀ h a f, (h.get? a).isSome → P h → P (h.update a f)
theorem runs_inv {P : Heap → Prop} (I : HInv P) {M : Model} {Γ : Ctx} {p : Pos} {t : Sem Fin} {fs : List Frame} {s s' : Shared} {e : End} (h : Runs M Γ p t fs s e s') : P s.heap → P s'.heap := by
  induction h with
  | alloc _ ih => exact fun q => ih (I.push _ _ q)
  | update ha _ ih => exact fun q => ih (I.upd _ _ _ ha q)
  | _ => (try simp only [Shared.setGen] at *); intro q; first | exact q | (rename_i ih; exact ih q) | (rename_i ih1 ih2; exact ih2 (ih1 q))
theorem wakes_inv {P : Heap → Prop} (I : HInv P) {M : Model} {Γ : Ctx} {p : Pos} {g : Nat} {r : Resume} {s s' : Shared} {res : GenResult} (h : Wakes M Γ p g r s res s') (q : P s.heap) : P s'.heap := by
  unfold Wakes at h
  split at h
  · exact h.elim
  · split at h
    · obtain ⟨e₁, s₁, hr, _, _, rfl⟩ := h; have z := runs_inv I hr q; exact z
    · rw [h.2]; exact q
    · rw [h.2]; exact q
  · obtain ⟨e₁, s₁, hr, _, _, rfl⟩ := h; have z := runs_inv I hr q; exact z
  · rw [h.2]; exact q
  · rw [h.2]; exact q
theorem wp_inv {P : Heap → Prop} (I : HInv P) {α : Type} (M : Model) (Γ : Ctx) (t : Sem α) : ∀ (Q : α → Pos → Shared → Prop) (E : Value → Pos → Shared → Prop) (p : Pos) (s : Shared), P s.heap → Sem.wp M Γ t Q E p s →
    Sem.wp M Γ t (fun a p' s' => P s'.heap ∧ Q a p' s') (fun e p' s' => P s'.heap ∧ E e p' s') p s := by
  induction t with
  | pure a => intro Q E p s hn h; exact ⟨hn, h⟩
  | raise e => intro Q E p s hn h; exact ⟨hn, h⟩
  | unsupported _ => intro Q E p s _ h; exact h
  | finish _ => intro Q E p s _ h; exact h
  | rule _ k ih => intro Q E p s hn h; exact ih () Q E p s hn h
  | «at» p' k ih => intro Q E p s hn h; exact ih () Q E p' s hn h
  | load a _ k ih => intro Q E p s hn h; obtain ⟨o, ho, h⟩ := h; exact ⟨o, ho, ih o Q E p s hn h⟩
  | update a _ f k ih => intro Q E p s hn h; exact ⟨h.1, ih () Q E p _ (I.upd _ _ _ h.1 hn) h.2⟩
  | loadIfAlive a k ih => intro Q E p s hn h; exact ih _ Q E p s hn h
  | point _ k ih => intro Q E p s hn h; exact ih () Q E p s hn h
  | register _ _ => intro Q E p s _ h; exact h
  | alloc o k ih => intro Q E p s hn h; exact ih _ Q E p _ (I.push _ _ hn) h
  | fresh k ih => intro Q E p s hn h; exact ih _ Q E p _ hn h
  | ask k ih => intro Q E p s hn h; exact ih _ Q E p s hn h
  | choose src m k ih => intro Q E p s hn h; exact ⟨h.1, ih _ Q E p _ hn h.2⟩
  | os q _ k ih => intro Q E p s hn h; exact ih _ Q E p _ hn h
  | call c hd _ _ k ih => intro Q E p s hn h; obtain ⟨r, s', hr, h⟩ := h; exact ⟨r, s', hr, ih r Q E p s' (runs_inv I hr hn) h⟩
  | handled own k ih => intro Q E p s hn h; exact ih _ Q E p s hn h
  | genState g k ih => intro Q E p s hn h; obtain ⟨st, hs, h⟩ := h; exact ⟨st, hs, ih _ Q E p s hn h⟩
  | newGen c k ih => intro Q E p s hn h; exact ih _ Q E p _ hn h
  | resume g r _ k ih => intro Q E p s hn h; obtain ⟨res, s', hw, h⟩ := h; exact ⟨res, s', hw, ih res Q E p s' (wakes_inv I hw hn) h⟩
  | yield _ _ _ _ => intro Q E p s _ h; exact h
  | stack k ih => intro Q E p s hn h; exact ih _ Q E p s hn h
  | fork _ _ => intro Q E p s _ h; exact h
  | thread k ih => intro Q E p s hn h; exact ih _ Q E p s hn h
  | await _ _ _ _ _ => intro Q E p s _ h; exact h
theorem wpAny_inv {P : Heap → Prop} (I : HInv P) {α : Type} {M : Model} {A : Around} {s : Shared} {t : Sem α} {Q : α → Shared → Prop} {E : Value → Shared → Prop} (q : P s.heap)
    (h : wpAny M A t (fun a s' => P s'.heap → Q a s') (fun e s' => P s'.heap → E e s') s) : wpAny M A t Q E s :=
  fun Γ p hΓ => Sem.wp_mono M Γ t (fun _ _ _ x => x.2 x.1) (fun _ _ _ x => x.2 x.1) p s (wp_inv I M Γ t _ _ p s q (h Γ p hΓ))
theorem upd_size (h : Heap) (a : Addr) (f : Obj → Obj) : (h.update a f).objs.size = h.objs.size := (Heap.SameBut.update h a f).1
theorem inv_size (n : Nat) : HInv fun h => n ≤ h.objs.size := ⟨fun h o q => by rw [Heap.size_push]; omega, fun h a f _ q => by rw [upd_size]; exact q⟩
theorem wpAny_size {α : Type} {M : Model} {A : Around} {s : Shared} {t : Sem α} {Q : α → Shared → Prop} {E : Value → Shared → Prop}
    (h : wpAny M A t (fun a s' => s.heap.objs.size ≤ s'.heap.objs.size → Q a s') (fun e s' => s.heap.objs.size ≤ s'.heap.objs.size → E e s') s) : wpAny M A t Q E s := wpAny_inv (inv_size _) (Nat.le_refl _) h
noncomputable def Gone (h h' : Heap) : Prop := h.objs.size ≤ h'.objs.size ∧ ∀ b, b < h.objs.size → h.get? b = none → h'.get? b = none
theorem inv_gone (h₀ : Heap) : HInv (Gone h₀) := by
  refine ⟨fun h o q => ⟨(inv_size _).push _ _ q.1, fun b hb e => ?_⟩, fun h a f ha q => ⟨(inv_size _).upd _ _ _ ha q.1, fun b hb e => ?_⟩⟩
  · have hl : b < h.objs.size := Nat.lt_of_lt_of_le hb q.1
    have := q.2 b hb e
    unfold Heap.get? Heap.push at *
    rw [Array.getElem?_push_lt hl, ← Array.getElem?_eq_getElem hl]
    exact this
  · have hne : b ≠ a := fun z => by rw [z] at hb e; rw [← z] at e hb; rw [← z, q.2 b hb e] at ha; cases ha
    rw [Heap.get?_update_other _ _ (Ne.symm hne)]
    exact q.2 b hb e
theorem wpAny_gone {α : Type} {M : Model} {A : Around} {s : Shared} {t : Sem α} {Q : α → Shared → Prop} {E : Value → Shared → Prop}
    (h : wpAny M A t (fun a s' => Gone s.heap s'.heap → Q a s') (fun e s' => Gone s.heap s'.heap → E e s') s) : wpAny M A t Q E s := wpAny_inv (inv_gone _) ⟨Nat.le_refl _, fun _ _ e => e⟩ h

section
variable {B : Bs} {fc : FC} {R : Rm} {env : Env} {A : Around}

theorem PX.loop {st : AS} {s s' : Shared} {X : QX} {e : Value} (S : St B fc env A R st s) (h : PX B fc env A R st s X e s') :
    notedBy B.M A env (fun e s' => cameBackBy B.M A env (PX B fc env A R st s X) e s') e s' :=
  wpAny_mono (PX.noted (E := fun e s' => cameBackBy B.M A env (PX B fc env A R st s X) e s') S h) (fun _ s'' h' => PXn.cameBack S h') fun _ _ e => e

noncomputable def WhileN (c : BD) (a o : SD) : Nat → SD
  | 0 => fun _ _ _ => False
  | n + 1 => fun st Q X => c st (fun t st => (t = true → a st (fun r st => match r with | .next => WhileN c a o n st Q X | .cont => WhileN c a o n st Q X | .brk => Q .next st | .ret v => Q (.ret v) st) X) ∧ (t = false → o st Q X)) X
noncomputable def SWhile (c : BD) (a o : SD) : SD := fun st Q X => ∃ n, WhileN c a o n st Q X

theorem SemS_while {test : Expr} {body orelse : List Stmt} {pos : Pos} {c : BD} {a o : SD} (hc : SemB B fc R test c) (ha : SemSs B fc R body a) (ho : SemSs B fc R orelse o) :
    SemS B fc R (.While test body orelse pos) (SWhile c a o) := by
  intro env A st s Q X S ⟨n, d⟩
  refine wpAny_While ?_
  refine codeAny_whileLoop (fun k s' => ∃ st', St B fc env A R st' s' ∧ Ext (Wf fc env) st.σ s st'.σ s' ∧ WhileN c a o k st' Q X) ?_ n ⟨st, S, S.refl, d⟩
  rintro k s₁ ⟨st₁, S₁, x₁, d₁⟩
  cases k with
  | zero => exact d₁.elim
  | succ k =>
    refine wpAny_mono (hc env A st₁ s₁ _ X S₁ d₁) ?_ fun e s' h => PX.loop S (h.of x₁)
    refine fun t s₂ => PB.el fun st₂ S₂ x₂ qq => ?_
    obtain ⟨q₁, q₂⟩ := qq
    have x₂ := x₁.trans x₂
    cases t with
    | true =>
      refine wpAny_mono (ha env A st₂ s₂ _ X S₂ (q₁ rfl)) ?_ fun e s' h => PX.loop S (h.of x₂)
      refine fun f s₃ => PF.el fun r st₃ S₃ x₃ e₃ q₃ => ?_
      have x₃ := x₂.trans x₃
      cases r with
      | next => cases e₃; exact ⟨k, Nat.lt_succ_self _, st₃, S₃, x₃, q₃⟩
      | cont => cases e₃; exact ⟨k, Nat.lt_succ_self _, st₃, S₃, x₃, q₃⟩
      | brk => cases e₃; exact PF.mk .next st₃ S₃ (x₃) rfl q₃
      | ret v => obtain ⟨v', rfl, e₃⟩ := e₃; exact ⟨.ret v, st₃, S₃, x₃, ⟨v', rfl, e₃⟩, q₃⟩
    | false =>
      exact wpAny_mono (ho env A st₂ s₂ _ X S₂ (q₂ rfl)) (fun f s' h => h.of x₂) fun e s' h => PX.loop S (h.of x₂)

noncomputable def rngL (a c : Int) : Nat → List AV
  | 0 => []
  | n + 1 => .int a :: rngL (a + c) c n

noncomputable def isTupT : Expr → Bool
  | .Tuple .. => true
  | _ => false

inductive Items (hm tp : Bool) (σ : Sto) : AV → List AV → (Sto → Prop) → Prop
  | tup (xs : List AV) : Items hm tp σ (.tup xs) xs (fun _ => True)
  | rng (a b c : Int) : Builtin.Range.small a b c = true → Items hm tp σ (.rng a b c) (rngL a c (Builtin.Range.rangeSize a b c).toNat) (fun _ => True)
  | list (l : Addr) (xs : List AV) : σ l = some (.list xs) → Items hm tp σ (.ptr l) xs (fun σ' => σ' l = some (.list xs))
  | dict (d : Addr) (es : List (Int × AV)) (ep : Nat) : hm = false → σ d = some (.dict es ep) → Items hm tp σ (.ptr d) (es.map fun p => .int p.1) (fun σ' => σ' d = some (.dict es ep))
  | vals (d : Addr) (es : List (Int × AV)) (ep : Nat) : hm = false → σ d = some (.dict es ep) → Items hm tp σ (.vw false d) (es.map (·.2)) (fun σ' => σ' d = some (.dict es ep))
  | items (d : Addr) (es : List (Int × AV)) (ep : Nat) : hm = false → tp = true → σ d = some (.dict es ep) → Items hm tp σ (.vw true d) (es.map fun p => .tup [.int p.1, p.2]) (fun σ' => σ' d = some (.dict es ep))

structure Itr (B : Bs) (A : Around) (R : Rm) (tp : Bool) (I : Addr) (av : AV) (v₀ : Value) (xs : List AV) (chk : Sto → Prop) (Inv : Nat → Heap → Prop) : Prop where
  there : ∀ i h, Inv i h → ∃ o vs, h.get? I = some o ∧ o.data = .fields vs ∧ ¬ ImmO o
  frame : ∀ i h h', Inv i h → (∀ o, h.get? I = some o → h'.get? I = some o) → Inv i h'
  item : ∀ i x σ s Q E, AOk B A R σ s → RH B σ s → RelV σ s.heap av v₀ → σ I = Option.none → B.h₀.objs.size ≤ I → chk σ → Inv i s.heap → xs[i]? = some x →
    (∀ v s', RH B σ s' → Ext (· = I) σ s σ s' → (∃ o vs, s'.heap.get? I = some o ∧ o.data = .fields vs) → RelV σ s'.heap x v →
      (∀ t E' Q', isTupT t = tp → (∀ s'', RH B σ s'' → Ext (· = I) σ s' σ s'' → Inv (i + 1) s''.heap → Q' () s'') → wpAny B.M A (letOwnedTupleGo t (.ref I) v) Q' E' s') → Q (some v) s') → wpAny B.M A (pyNext (.ref I)) Q E s
  done : ∀ i σ s Q E, AOk B A R σ s → RH B σ s → RelV σ s.heap av v₀ → σ I = Option.none → B.h₀.objs.size ≤ I → chk σ → Inv i s.heap → xs.length ≤ i → (∀ s', RH B σ s' → Ext (· = I) σ s σ s' → Q Option.none s') → wpAny B.M A (pyNext (.ref I)) Q E s

noncomputable def SelfIt (B : Bs) (A : Around) (I : Addr) (av : AV) (Inv : Nat → Heap → Prop) : Prop :=
  (∀ d, av ≠ .vw true d) → ∀ (i : Nat) (s : Shared) (Q : Value → Shared → Prop) (E : Value → Shared → Prop), Inv i s.heap → Q (.ref I) s → wpAny B.M A (pyIter (.ref I)) Q E s
noncomputable def IterAll (B : Bs) (R : Rm) : Prop := ∀ tp A σ s av v xs chk (Q : Value → Shared → Prop) (E : Value → Shared → Prop), AOk B A R σ s → RH B σ s → RelV σ s.heap av v → Items R.hm tp σ av xs chk →
  (∀ I Inv s', Itr B A R tp I av v xs chk Inv → SelfIt B A I av Inv → RH B σ s' → Ext NoW σ s σ s' → σ I = Option.none → s.heap.objs.size ≤ I → Inv 0 s'.heap → Q (.ref I) s') → wpAny B.M A (pyIter v) Q E s

noncomputable def ForN (g : AV → AS → (AS → Prop) → QX → Prop) (a o : SD) (chk : Sto → Prop) : List AV → SD
  | [] => fun st Q X => chk st.σ ∧ o st Q X
  | x :: xs => fun st Q X => chk st.σ ∧ g x st (fun st => a st (fun r st => match r with | .next => ForN g a o chk xs st Q X | .cont => ForN g a o chk xs st Q X | .brk => Q .next st | .ret v => Q (.ret v) st) X) X
noncomputable def SFor (hm tp : Bool) (g : AV → AS → (AS → Prop) → QX → Prop) (i : ED) (a o : SD) : SD := fun st Q X => i st (fun v st => ∃ xs chk, Items hm tp st.σ v xs chk ∧ ForN g a o chk xs st Q X) X

theorem St.young {I : Addr} {st : AS} {s s' : Shared} (S : St B fc env A R st s) (rh : RH B st.σ s') (x : Ext (· = I) st.σ s st.σ s') (hI : ∃ o vs, s.heap.get? I = some o ∧ o.data = .fields vs) (hh : A.handled ≠ some (.ref I)) : St B fc env A R st s' := by
  obtain ⟨oI, vI, eI, dI⟩ := hI
  have notI : ∀ b o, s.heap.get? b = some o → (∀ vs, o.data ≠ .fields vs) → b ≠ I := fun b o e d z => by
    subst z; rw [eI] at e; cases e; exact d _ dI
  refine ⟨rh, ⟨S.rf.len, ?_, S.rf.nsN, fun i y k hi hkk => ?_⟩, S.ao.ext x (fun b hp ⟨env', L, hm, hf, e⟩ => ?_) (fun b hb => hb ▸ hh), S.eo, S.fr⟩
  · obtain ⟨mm, n, h⟩ := S.rf.ns
    refine ⟨mm, Ns.kept n fun o e => x.keep _ o S.rf.nsN.1 ?_ e, fun i x' hi => RelO.ext x (h i x' hi)⟩
    obtain ⟨o', es, ep, e', d', _⟩ := n
    rw [e] at e'; cases e'
    exact notI _ _ e fun vs z => by rw [d'] at z; cases z
  · obtain ⟨c, ov, h1, ⟨o', e', d'⟩, h3, h4, h5⟩ := S.rf.cell i y k hi hkk
    have q := x.stays h4 (notI _ _ e' fun vs z => by rw [d'] at z; cases z) e' (fun _ _ z => by rw [d'] at z; cases z)
    exact ⟨c, ov, h1, ⟨o', q.1, d'⟩, RelO.ext x h3, h4, h5⟩
  · obtain ⟨l, h1, h2, h3⟩ := S.ao.frames
    rw [h1] at hm
    obtain ⟨_, o, es, n, ho', hd⟩ := h3 env' hm _ hf
    subst e
    exact absurd hp (notI _ _ ho' fun vs z => by rw [hd] at z; cases z)

theorem SemS_for {target iter : Expr} {body orelse : List Stmt} {pos : Pos} {g : AV → AS → (AS → Prop) → QX → Prop} {i : ED} {a o : SD} (hit : IterAll B R) (hi : SemE B fc R iter i) (hg : SemG B fc R target g)
    (ha : SemSs B fc R body a) (ho : SemSs B fc R orelse o) (hs : ∀ env x, foldedSetIterable iter env x = pure x) : SemS B fc R (.For target iter body orelse pos) (SFor R.hm (isTupT target) g i a o) := by
  intro env A st s Q X S d
  refine wpAny_For (wpAny_mono (hi env A st s _ X S d) ?_ fun _ _ e => e) (hs env)
  refine fun v₁ s₁ => PV.el fun av₁ st₁ S₁ x₁ r₁ qq => ?_
  obtain ⟨xs, chk, it₁, q₁⟩ := qq
  refine hit (isTupT target) A st₁.σ s₁ av₁ v₁ xs chk _ _ S₁.ao S₁.rh r₁ it₁ fun I Inv s₂ IT _ rh₂ x₂ hI hIn inv₂ => ?_
  have S₂ : St B fc env A R st₁ s₂ := S₁.op rh₂ x₂
  have x₂' := x₁.trans (S₁.extW x₂)
  have hIs : s.heap.objs.size ≤ I := Nat.le_trans x₁.size hIn
  have hN : B.h₀.objs.size ≤ I := Nat.le_trans S.rh.size hIs
  -- the state between two turns
  refine codeAny_loop' rfl (fun k s' => ∃ j st', St B fc env A R st' s' ∧ RelV st'.σ s'.heap av₁ v₁ ∧ Ext (Wf fc env) st.σ s st'.σ s' ∧ st'.σ I = Option.none ∧ Inv j s'.heap ∧ k = xs.length - j ∧ j ≤ xs.length ∧ ForN g a o chk (xs.drop j) st' Q X) ?_ xs.length ⟨0, st₁, S₂, RelV.ext x₂ _ r₁, x₂', hI, inv₂, rfl, Nat.zero_le _, q₁⟩
  rintro k s₃ ⟨j, st₃, S₃, rv₃, x₃, hI₃, inv₃, rfl, hj, q₃⟩
  show wpAny _ _ ((forTurn target (.ref I) body orelse env).onRaise (fun x => do noteFrame x env; theTreesLotGoes x)) _ _ s₃
  refine wpAny_noted ?_
  simp only [forTurn]
  have hh : A.handled ≠ some (.ref I) := S.ao.older hIs
  have hIthere : ∃ o vs, s₃.heap.get? I = some o ∧ o.data = .fields vs := by obtain ⟨o, vs, e, d, _⟩ := IT.there j _ inv₃; exact ⟨o, vs, e, d⟩
  refine wpAny_bind (wpAny_standAt (wpAny_bind (wpAny_onRaise ?_)))
  cases hd : xs[j]? with
  | none =>
    have hlen : xs.length ≤ j := List.getElem?_eq_none_iff.mp hd
    rw [List.drop_eq_nil_of_le hlen] at q₃
    refine IT.done j st₃.σ s₃ _ _ S₃.ao S₃.rh rv₃ hI₃ hN q₃.1 inv₃ hlen fun s₄ rh₄ x₄ => ?_
    have S₄ := S₃.young rh₄ x₄ hIthere hh
    have x₄' := x₃.transX x₄ fun b hb => hb ▸ hIs
    refine wpAny_pure (.inr ⟨rfl, codeAny_block ?_⟩)
    exact wpAny_mono (ho env A st₃ s₄ _ X S₄ q₃.2) (fun f s' h => h.of x₄') fun e s' h => PX.loop S (h.of x₄')
  | some x =>
    have hjl : j < xs.length := (List.getElem?_eq_some_iff.mp hd).1
    rw [List.drop_eq_getElem_cons hjl] at q₃
    have hx : xs[j] = x := (List.getElem?_eq_some_iff.mp hd).2
    rw [hx] at q₃
    refine IT.item j x st₃.σ s₃ _ _ S₃.ao S₃.rh rv₃ hI₃ hN q₃.1 inv₃ hd fun v s₄ rh₄ x₄ hI₄ rv own => ?_
    refine wpAny_bind (own target _ _ rfl fun s₅ rh₅ x₅ inv₅ => ?_)
    have S₄ := S₃.young rh₄ x₄ hIthere hh
    have S₅ := S₄.young rh₅ x₅ hI₄ hh
    have x₅' := (x₃.transX x₄ fun b hb => hb ▸ hIs).transX x₅ fun b hb => hb ▸ hIs
    refine wpAny_bind (wpAny_mono (hg env A st₃ s₅ x v _ X S₅ (RelV.ext x₅ _ rv) q₃.2) ?_ fun e s' h => PX.loop S (h.of x₅'))
    refine fun _ s₆ => PU.el fun st₆ S₆ x₆ q₆ => ?_
    have x₆' := x₅'.trans x₆
    refine wpAny_bind (wpAny_mono (ha env A st₆ s₆ _ X S₆ q₆) ?_ fun e s' h => PX.loop S (h.of x₆'))
    refine fun f s₇ => PF.el fun r st₇ S₇ x₇ e₇ q₇ => ?_
    have x₇' := x₆'.trans x₇
    have x57 := x₆.trans x₇
    obtain ⟨oI, vI, eI, dI, nI⟩ := IT.there _ _ inv₅
    have notW : ¬ Wf fc env I := fun hw => by
      rcases hw with z | ⟨i', y, hi', hc⟩
      · obtain ⟨mm, ⟨o', es, ep, e', d', _⟩, _⟩ := S₅.rf.ns
        rw [← z, eI] at e'; cases e'; rw [dI] at d'; cases d'
      · obtain ⟨c, ov, hc', ⟨o', e', d'⟩, _⟩ := S₅.rf.cell i' y .own hi' (by decide)
        rw [hc] at hc'; cases hc'
        rw [eI] at e'; cases e'; rw [dI] at d'; cases d'
    have keepI := x57.stays hI₃ notW eI (fun es n z => by rw [dI] at z; cases z)
    have inv₇ : Inv (j + 1) s₇.heap := IT.frame _ _ _ inv₅ fun o' e' => by rw [eI] at e'; cases e'; exact keepI.1
    cases r with
    | next => cases e₇; exact wpAny_pure (.inl ⟨rfl, xs.length - (j + 1), by omega, j + 1, st₇, S₇, RelV.ext x57 _ (RelV.ext x₅ _ (RelV.ext x₄ _ rv₃)), x₇', keepI.2, inv₇, rfl, hjl, q₇⟩)
    | cont => cases e₇; exact wpAny_pure (.inl ⟨rfl, xs.length - (j + 1), by omega, j + 1, st₇, S₇, RelV.ext x57 _ (RelV.ext x₅ _ (RelV.ext x₄ _ rv₃)), x₇', keepI.2, inv₇, rfl, hjl, q₇⟩)
    | brk => cases e₇; exact wpAny_pure ⟨.next, st₇, S₇, x₇', rfl, q₇⟩
    | ret v => obtain ⟨v', rfl, e₇⟩ := e₇; exact wpAny_pure ⟨.ret v, st₇, S₇, x₇', ⟨v', rfl, e₇⟩, q₇⟩
end
end Mine
-- MjF
namespace Mine

section
variable {B : Bs} {fc : FC} {R : Rm} {env : Env} {A : Around}

theorem RelVs.length {σ : Sto} {h : Heap} : ∀ {xs : List AV} {vs : List Value}, RelVs σ h xs vs → vs.length = xs.length
  | [], _, h => by rw [show _ = [] from h]; rfl
  | _ :: _, _, ⟨v, vs', e, _, h⟩ => by rw [e, List.length_cons, List.length_cons, RelVs.length h]
theorem RelVs.get {σ : Sto} {h : Heap} : ∀ {xs : List AV} {vs : List Value} {i : Nat} {x : AV}, RelVs σ h xs vs → xs[i]? = some x → ∃ v, vs[i]? = some v ∧ RelV σ h x v
  | [], _, i, x, _, e => by simp at e
  | y :: ys, _, 0, x, ⟨v, vs', e, h1, _⟩, e' => by simp at e'; subst e'; subst e; exact ⟨v, rfl, h1⟩
  | y :: ys, _, i + 1, x, ⟨v, vs', e, _, h2⟩, e' => by
    subst e
    simp only [List.getElem?_cons_succ] at e' ⊢
    exact RelVs.get h2 e'

theorem mvI {I : Addr} {σ : Sto} {s s' : Shared} {oI : Obj} (rh : RH B σ s) (hI : σ I = Option.none) (hN : B.h₀.objs.size ≤ I) (eI : s.heap.get? I = some oI) (nI : ¬ ImmO oI)
    (k : ∀ b o, b ≠ I → s.heap.get? b = some o → s'.heap.get? b = some o) (hz : s.heap.objs.size ≤ s'.heap.objs.size) (hg : s'.gens = s.gens) (ho : s'.os = s.os) : RH B σ s' ∧ Ext (· = I) σ s σ s' := by
  have x : Ext (· = I) σ s σ s' := ⟨fun b o _ h2 e => ⟨o, k b o h2 e, .refl o⟩, fun _ h1 h2 => absurd h1 h2, hz, fun a o ha e => by subst ha; rw [eI] at e; cases e; exact nI⟩
  exact ⟨rh.still x (fun a ob ha e => k a ob (fun z => ha (z ▸ hI)) e) (fun b o hb e => k b o (fun z => absurd (Heap.lt_size hb) (by subst z; exact Nat.not_lt.mpr hN)) e) hg ho, x⟩

theorem mvPush {σ : Sto} {s : Shared} (rh : RH B σ s) (o : Obj) (t : Nat) : RH B σ { s with heap := s.heap.push o, toks := t } ∧ Ext NoW σ s σ { s with heap := s.heap.push o, toks := t } := by
  have x : Ext NoW σ s σ { s with heap := s.heap.push o, toks := t } := ⟨fun b o _ _ e => ⟨o, Heap.get?_push_of_some _ e, .refl o⟩, fun _ h1 h2 => absurd h1 h2, (by show s.heap.objs.size ≤ (s.heap.push o).objs.size; rw [Heap.size_push]; exact Nat.le_succ _), fun _ _ h => h.elim⟩
  exact ⟨rh.still x (fun a ob ha e => Heap.get?_push_of_some _ e) (fun b o hb e => Heap.get?_push_of_some _ e) rfl rfl, x⟩
theorem RH.freshN {σ : Sto} {s : Shared} (rh : RH B σ s) {a : Addr} (h : s.heap.objs.size ≤ a) : σ a = Option.none := by
  cases q : σ a with
  | none => rfl
  | some z =>
    obtain ⟨ob, e⟩ := (rh.sto _ _ q).there
    exact absurd (Heap.lt_size e) (Nat.not_lt.mpr h)

noncomputable def ownIters : List String := ["enumerate", "zip", "dict_itemiterator", "dict_reverseitemiterator", "odict_iterator", "itertools.zip_longest", "itertools.pairwise"]
theorem letOwned_plain {M : Model} {t : Expr} {I : Addr} {v : Value} {s : Shared} {o : Obj} {n : String} {Q : Unit → Shared → Prop} {E : Value → Shared → Prop} (e : s.heap.get? I = some o) (hc : o.cls = .type n) (hn : ownIters.contains n = false) (h : Q () s) :
    wpAny M A (letOwnedTupleGo t (.ref I) v) Q E s := by
  have key : wpAny M A (do
      let (.ref r, .ref a) := (Value.ref I, v) | return
      let o ← load r
      match o.cls, o.data with
      | .type n, .fields vs =>
        if ["enumerate", "zip", "dict_itemiterator", "dict_reverseitemiterator", "odict_iterator", "itertools.zip_longest", "itertools.pairwise"].contains n && vs[0]? == some (rawInt a) then
          rule "for.unpacks-the-owned-tuple"
          updateField r 0 .none
      | _, _ => pure ()) Q E s := by
    cases v with
    | ref a =>
      refine wpAny_bind (wpAny_load e ?_)
      rw [hc]
      cases o.data with
      | fields vs =>
        dsimp only
        rw [if_neg (by unfold ownIters at hn; rw [hn]; simp)]
        exact wpAny_pure h
      | _ => exact wpAny_pure h
    | _ => exact wpAny_pure h
  unfold letOwnedTupleGo
  split
  · exact key
  · exact key
  · exact wpAny_pure h

theorem A_none (hR : R.hm = false) {σ : Sto} {s : Shared} (a : AOk B A R σ s) : A.handled = Option.none := by
  rcases a.handled with ⟨h, _⟩ | ⟨_, _, _, _, _, h, _⟩
  · exact h
  · unfold Rm.hm at hR; rw [h] at hR; cases hR

theorem nImm {o : Obj} {n : String} (hc : o.cls = .type n) (hn : n ≠ "tuple" ∧ n ≠ "range" ∧ n ≠ "dict_items" ∧ n ≠ "dict_values" ∧ n ≠ "method-wrapper") : ¬ ImmO o := by
  rintro (⟨vs, rfl⟩ | ⟨_, _, _, _, _, _, rfl⟩ | ⟨k, _, rfl⟩ | ⟨_, rfl⟩)
  · simp [tupO] at hc; exact hn.1 hc.symm
  · simp [rngO] at hc; exact hn.2.1 hc.symm
  · cases k <;> simp [vwO] at hc
    · exact hn.2.2.2.1 hc.symm
    · exact hn.2.2.1 hc.symm
  · simp [wrpO] at hc; exact hn.2.2.2.2 hc.symm

theorem itr_mk {tp : Bool} {I : Addr} {av : AV} {v₀ : Value} {xs : List AV} {chk : Sto → Prop} {C : String} (Inv : Nat → Heap → Prop) (hC : C ≠ "tuple" ∧ C ≠ "range" ∧ C ≠ "dict_items" ∧ C ≠ "dict_values" ∧ C ≠ "method-wrapper") (hO : ownIters.contains C = false)
    (rec_ : ∀ i h, Inv i h → ∃ o vs, h.get? I = some o ∧ o.cls = .type C ∧ o.data = .fields vs)
    (frame : ∀ i h h', Inv i h → (∀ o, h.get? I = some o → h'.get? I = some o) → Inv i h')
    (item : ∀ i x σ s Q E, AOk B A R σ s → RH B σ s → RelV σ s.heap av v₀ → chk σ → Inv i s.heap → σ I = Option.none → xs[i]? = some x →
      (∀ v s', RelV σ s.heap x v → Inv (i + 1) s'.heap → (∀ b o, b ≠ I → s.heap.get? b = some o → s'.heap.get? b = some o) → s'.gens = s.gens → s'.os = s.os → Q (some v) s') → wpAny B.M A (pyNext (.ref I)) Q E s)
    (done : ∀ i σ s Q E, AOk B A R σ s → RH B σ s → RelV σ s.heap av v₀ → chk σ → Inv i s.heap → σ I = Option.none → xs.length ≤ i →
      (∀ s', (∀ b o, b ≠ I → s.heap.get? b = some o → s'.heap.get? b = some o) → s'.gens = s.gens → s'.os = s.os → Q Option.none s') → wpAny B.M A (pyNext (.ref I)) Q E s) : Itr B A R tp I av v₀ xs chk Inv where
  there := fun i h hi => by obtain ⟨o, vs, e, c, d⟩ := rec_ i h hi; exact ⟨o, vs, e, d, nImm c hC⟩
  frame := frame
  item := fun i x σ s Q E a rh r₀ hI hN hc hi hx hQ => by
    obtain ⟨oI, vI, eI, cI, dI⟩ := rec_ _ _ hi
    refine wpAny_size (item i x σ s _ _ a rh r₀ hc hi hI hx fun v s' rv hi' k hg ho hz => ?_)
    obtain ⟨rh', x'⟩ := mvI (s' := s') rh hI hN eI (nImm cI hC) k hz hg ho
    obtain ⟨o', v', e', c', d'⟩ := rec_ _ _ hi'
    exact hQ v _ rh' x' ⟨o', _, e', d'⟩ (RelV.ext x' _ rv) fun t E' Q' _ hq => letOwned_plain e' c' hO (hq _ rh' (Ext.reflW fun a o ha q => by subst ha; rw [e'] at q; cases q; exact nImm c' hC) hi')
  done := fun i σ s Q E a rh r₀ hI hN hc hi hx hQ => by
    obtain ⟨oI, vI, eI, cI, dI⟩ := rec_ _ _ hi
    refine wpAny_size (done i σ s _ _ a rh r₀ hc hi hI hx fun s' k hg ho hz => ?_)
    obtain ⟨rh', x'⟩ := mvI (s' := s') rh hI hN eI (nImm cI hC) k hz hg ho
    exact hQ _ rh' x'

theorem itr_list (hR : R.hm = false) {tp : Bool} {I l : Addr} {xs : List AV} : Itr B A R tp I (.ptr l) (.ref l) xs (fun σ' => σ' l = some (.list xs)) (fun i h => h.IsListIter I l i) := by
  refine itr_mk (C := "list_iterator") _ (by decide) (by decide) (fun i h ⟨o, e, c, d⟩ => ⟨o, _, e, c, d⟩) (fun i h h' ⟨o, e, r⟩ k => ⟨o, k o e, r⟩) ?_ ?_
  · intro i x σ s Q E a rh _ hc hi hI hx hQ
    obtain ⟨vs, n, e, r⟩ := rh.sto l _ hc
    obtain ⟨v, hv, rv⟩ := r.get hx
    exact wpAny_pyNext_list_item hi ⟨_, e, rfl, n, rfl⟩ (by simpa using hv) fun h' hi' sb => hQ v _ rv hi' (fun b o hb q => (sb.2 b hb).trans q) rfl rfl
  · intro i σ s Q E a rh _ hc hi hI hx hQ
    obtain ⟨vs, n, e, r⟩ := rh.sto l _ hc
    exact wpAny_pyNext_list_end (A_none hR a) hi ⟨_, e, rfl, n, rfl⟩ (by simp [r.length, hx]) fun h' eb => hQ _ eb rfl rfl

theorem itr_tup (hR : R.hm = false) {tp : Bool} {I t : Addr} {xs : List AV} : Itr B A R tp I (.tup xs) (.ref t) xs (fun _ => True) (fun i h => IsTupIter h I t i) := by
  refine itr_mk (C := "tuple_iterator") _ (by decide) (by decide) (fun i h ⟨o, e, c, d⟩ => ⟨o, _, e, c, d⟩) (fun i h h' ⟨o, e, r⟩ k => ⟨o, k o e, r⟩) ?_ ?_
  · rintro i x σ s Q E a rh ⟨a', vs, e0, e, hn, r⟩ hc hi hI hx hQ
    cases e0
    obtain ⟨v, hv, rv⟩ := r.get hx
    exact next_tuple_item hi ⟨_, e, rfl, 0, rfl⟩ (by simpa using hv) fun h' hi' sb => hQ v _ rv hi' (fun b o hb q => (sb.2 b hb).trans q) rfl rfl
  · rintro i σ s Q E a rh ⟨a', vs, e0, e, hn, r⟩ hc hi hI hx hQ
    cases e0
    exact next_tuple_end (A_none hR a) hi ⟨_, e, rfl, 0, rfl⟩ (by simp [r.length, hx]) fun h' eb => hQ _ eb rfl rfl

theorem rngL_length (a c : Int) (n : Nat) : (rngL a c n).length = n := by
  induction n generalizing a with
  | zero => rfl
  | succ n ih => simp [rngL, ih]
theorem rngL_get (c : Int) : ∀ (n : Nat) (a : Int) (i : Nat) (x : AV), (rngL a c n)[i]? = some x → x = .int (a + i * c) ∧ i < n
  | 0, a, i, x, h => by simp [rngL] at h
  | n + 1, a, 0, x, h => by simp [rngL] at h; subst h; simp
  | n + 1, a, i + 1, x, h => by
    simp only [rngL, List.getElem?_cons_succ] at h
    obtain ⟨e, hl⟩ := rngL_get c n (a + c) i x h
    refine ⟨?_, by omega⟩
    rw [e]
    congr 1
    push_cast
    rw [Int.add_mul]; omega
theorem itr_rng (hR : R.hm = false) {tp : Bool} {I : Addr} {v₀ : Value} {av : AV} {a c : Int} {n : Nat} : Itr B A R tp I av v₀ (rngL a c n) (fun _ => True) (fun i h => IsRangeIter h I (a + i * c) ((n : Int) - i) c) := by
  refine itr_mk (C := "range_iterator") _ (by decide) (by decide) (fun i h e => ⟨_, _, e, rfl, rfl⟩) (fun i h h' e k => k _ e) ?_ ?_
  · intro i x σ s Q E ao rh _ hc hi hI hx hQ
    obtain ⟨rfl, hl⟩ := rngL_get c n a i x hx
    refine wpAny_pyNext_range_item hi (by omega) fun h' hi' sb => hQ _ _ ⟨_, rfl⟩ ?_ (fun b o hb q => (sb.2 b hb).trans q) rfl rfl
    show IsRangeIter h' I _ _ _
    have e1 : a + ((i + 1 : Nat) : Int) * c = a + (i : Int) * c + c := by push_cast; rw [Int.add_mul]; omega
    have e2 : (n : Int) - ((i + 1 : Nat) : Int) = (n : Int) - i - 1 := by push_cast; omega
    rw [e1, e2]; exact hi'
  · intro i σ s Q E ao rh _ hc hi hI hx hQ
    rw [rngL_length] at hx
    exact wpAny_pyNext_range_end (A_none hR ao) hi (by omega) fun h' eb => hQ _ eb rfl rfl

theorem PairE.length {σ : Sto} {h : Heap} : ∀ {es : List (Int × AV)} {kvs : List (Int × Value)}, PairE σ h es kvs → kvs.length = es.length
  | [], _, h => by rw [show _ = [] from h]; rfl
  | (_, _) :: _, _, ⟨v, vs', e, _, h⟩ => by rw [e, List.length_cons, List.length_cons, PairE.length h]
theorem PairE.get {σ : Sto} {h : Heap} : ∀ {es : List (Int × AV)} {kvs : List (Int × Value)} {i : Nat} {k : Int} {x : AV}, PairE σ h es kvs → es[i]? = some (k, x) → ∃ v, kvs[i]? = some (k, v) ∧ RelV σ h x v
  | [], _, i, k, x, _, e => by simp at e
  | (a, b) :: ys, _, 0, k, x, ⟨v, vs', e, h1, _⟩, e' => by simp at e'; obtain ⟨rfl, rfl⟩ := e'; subst e; exact ⟨v, rfl, h1⟩
  | (a, b) :: ys, _, i + 1, k, x, ⟨v, vs', e, _, h2⟩, e' => by
    subst e
    simp only [List.getElem?_cons_succ] at e' ⊢
    exact PairE.get h2 e'

theorem map_get {α β : Type} {f : α → β} {l : List α} {i : Nat} {x : β} (h : (l.map f)[i]? = some x) : ∃ p, l[i]? = some p ∧ x = f p := by
  simp only [List.getElem?_map, Option.map_eq_some_iff] at h
  obtain ⟨p, h1, h2⟩ := h; exact ⟨p, h1, h2.symm⟩

theorem itr_dict (hR : R.hm = false) {tp : Bool} {I d : Addr} {es : List (Int × AV)} {ep : Nat} {v₀ : Value} {av : AV} : Itr B A R tp I av v₀ (es.map fun p => .int p.1) (fun σ' => σ' d = some (.dict es ep)) (fun i h => h.IsKeyIter I d i es.length ep) := by
  refine itr_mk (C := "dict_keyiterator") _ (by decide) (by decide) (fun i h ⟨o, e, c, d⟩ => ⟨o, _, e, c, d⟩) (fun i h h' ⟨o, e, r⟩ k => ⟨o, k o e, r⟩) ?_ ?_
  · intro i x σ s Q E a rh _ hc hi hI hx hQ
    obtain ⟨kvs, hm, pr⟩ := rh.sto d _ hc
    obtain ⟨⟨k, y⟩, he, rfl⟩ := map_get hx
    obtain ⟨v, hv, rv⟩ := pr.get he
    rw [← pr.length] at hi
    refine wpAny_pyNext_dict_item hi hm hv fun key h' hk hi' sb => hQ key _ ?_ (pr.length ▸ hi') (fun b o hb q => (sb.2 b hb).trans q) rfl rfl
    obtain ⟨t, rfl⟩ := Value.isInt_shape hk
    exact ⟨t, rfl⟩
  · intro i σ s Q E a rh _ hc hi hI hx hQ
    obtain ⟨kvs, hm, pr⟩ := rh.sto d _ hc
    rw [← pr.length] at hi
    exact wpAny_pyNext_dict_end (A_none hR a) hi hm (List.getElem?_eq_none (by rw [pr.length]; simpa using hx)) fun h' eb => hQ _ eb rfl rfl

theorem itr_vals (hR : R.hm = false) {tp : Bool} {I d : Addr} {es : List (Int × AV)} {ep : Nat} {v₀ : Value} {av : AV} : Itr B A R tp I av v₀ (es.map (·.2)) (fun σ' => σ' d = some (.dict es ep)) (fun i h => h.IsValIter I d i es.length ep) := by
  refine itr_mk (C := "dict_valueiterator") _ (by decide) (by decide) (fun i h ⟨o, e, c, d⟩ => ⟨o, _, e, c, d⟩) (fun i h h' ⟨o, e, r⟩ k => ⟨o, k o e, r⟩) ?_ ?_
  · intro i x σ s Q E a rh _ hc hi hI hx hQ
    obtain ⟨kvs, hm, pr⟩ := rh.sto d _ hc
    obtain ⟨⟨k, y⟩, he, rfl⟩ := map_get hx
    obtain ⟨v, hv, rv⟩ := pr.get he
    rw [← pr.length] at hi
    exact wpAny_pyNext_values_item hi hm hv fun h' hi' sb => hQ v _ rv (pr.length ▸ hi') (fun b o hb q => (sb.2 b hb).trans q) rfl rfl
  · intro i σ s Q E a rh _ hc hi hI hx hQ
    obtain ⟨kvs, hm, pr⟩ := rh.sto d _ hc
    rw [← pr.length] at hi
    exact wpAny_pyNext_values_end (A_none hR a) hi hm (List.getElem?_eq_none (by rw [pr.length]; simpa using hx)) fun h' eb => hQ _ eb rfl rfl

theorem itr_items (hR : R.hm = false) {I d : Addr} {es : List (Int × AV)} {ep : Nat} {v₀ : Value} {av : AV} : Itr B A R true I av v₀ (es.map fun p => .tup [.int p.1, p.2]) (fun σ' => σ' d = some (.dict es ep)) (fun i h => ∃ ok ov, IsItemIter h I d i es.length ep ok ov) where
  there := fun i h ⟨ok, ov, e⟩ => ⟨_, _, e, rfl, nImm (n := "dict_itemiterator") rfl (by decide)⟩
  frame := fun i h h' ⟨ok, ov, e⟩ k => ⟨ok, ov, k _ e⟩
  item := fun i x σ s Q E a rh _ hI hN hc hi hx hQ => by
    obtain ⟨kvs, hm, pr⟩ := rh.sto d _ hc
    obtain ⟨⟨k, y⟩, he, rfl⟩ := map_get hx
    obtain ⟨v, hv, rv⟩ := pr.get he
    obtain ⟨ok, ov, hi⟩ := hi
    rw [← pr.length] at hi
    refine wpAny_pyNext_items_item hi hm hv fun key h' hk hi' ht hz kp => ?_
    obtain ⟨t, rfl⟩ := Value.isInt_shape hk
    obtain ⟨rh', x'⟩ := mvI (s' := { s with heap := h' }) rh hI hN hi (nImm (n := "dict_itemiterator") rfl (by decide)) kp (by show _ ≤ h'.objs.size; omega) rfl rfl
    refine hQ _ _ rh' x' ⟨_, _, hi', rfl⟩ ⟨s.heap.objs.size, [.int k t, v], rfl, ht, rh.freshN (Nat.le_refl _), .int k t, [v], rfl, ⟨t, rfl⟩, v, [], rfl, RelV.ext x' _ rv, rfl⟩ ?_
    intro tt E' Q' htt hq
    cases tt with
    | Tuple elts x1 pos =>
      refine wpAny_letOwnedTupleGo_items hi' fun h'' hi'' sb => ?_
      obtain ⟨rh'', x''⟩ := mvI (s' := { s with heap := h'' }) rh' hI hN hi' (nImm (n := "dict_itemiterator") rfl (by decide)) (fun b o hb q => (sb.2 b hb).trans q) (Nat.le_of_eq sb.1.symm) rfl rfl
      exact hq _ rh'' x'' ⟨_, _, pr.length ▸ hi''⟩
    | _ => cases htt
  done := fun i σ s Q E a rh _ hI hN hc hi hx hQ => by
    obtain ⟨kvs, hm, pr⟩ := rh.sto d _ hc
    obtain ⟨ok, ov, hi⟩ := hi
    rw [← pr.length] at hi
    refine wpAny_size (wpAny_pyNext_items_end (A_none hR a) hi hm (List.getElem?_eq_none (by rw [pr.length]; simpa using hx)) fun h' eb hz => ?_)
    obtain ⟨rh', x'⟩ := mvI (s' := { s with heap := h' }) rh hI hN hi (nImm (n := "dict_itemiterator") rfl (by decide)) (fun b o hb q => eb b o hb q) hz rfl rfl
    exact hQ _ rh' x'

theorem RH.notMod {σ : Sto} {s : Shared} (rh : RH B σ s) {d : Addr} {o : AObj} (h : σ d = some o) : (d == sysModules) = false := by
  have h1 := rh.new d (by rw [h]; exact fun z => nomatch z)
  have h2 := B.low
  refine beq_eq_false_iff_ne.mpr fun e => ?_
  rw [e] at h1
  exact absurd h2 (Nat.not_lt.mpr h1)

theorem iterAll (hR : R.hm = false) : IterAll B R := by
  intro tp A σ s av v xs chk Q E a rh r it h
  have push : ∀ o, RH B σ { s with heap := s.heap.push o } ∧ Ext NoW σ s σ { s with heap := s.heap.push o } := fun o => mvPush rh o s.toks
  have hI : σ s.heap.objs.size = Option.none := rh.freshN (Nat.le_refl _)
  cases it with
  | tup =>
    obtain ⟨t, vs, rfl, e, hn, rs⟩ := r
    exact iter_tuple ⟨_, e, rfl, 0, rfl⟩ (h _ _ _ (itr_tup hR) (fun _ _ _ _ _ hi hq => wpAny_pyIter_tupleiter hi hq) (push _).1 (push _).2 hI (Nat.le_refl _) ⟨_, Heap.get?_push_size _ rfl, rfl, rfl⟩)
  | rng a b c hs =>
    obtain ⟨p, t, u, w, rfl, e, hn⟩ := r
    refine wpAny_pyIter_range e hs (h _ _ _ (itr_rng hR) (fun _ _ _ _ _ hi hq => wpAny_pyIter_rangeiter hi hq) (push _).1 (push _).2 hI (Nat.le_refl _) ?_)
    have e0 : 0 ≤ Builtin.Range.rangeSize a b c := by
      unfold Builtin.Range.rangeSize
      repeat' split
      · have := Int.ediv_nonneg (a := b - a - 1) (b := c) (by omega) (by omega); omega
      · omega
      · have := Int.ediv_nonneg (a := a - b - 1) (b := -c) (by omega) (by omega); omega
      · omega
    show IsRangeIter _ _ _ _ _
    have e1 : (((Builtin.Range.rangeSize a b c).toNat : Nat) : Int) - ((0 : Nat) : Int) = Builtin.Range.rangeSize a b c := by
      have := Int.toNat_of_nonneg e0; omega
    rw [e1]
    simpa using Heap.get?_push_size _ rfl
  | list l _ hl =>
    cases r
    obtain ⟨vs, n, e, rs⟩ := rh.sto l _ hl
    exact wpAny_pyIter_list ⟨_, e, rfl, n, rfl⟩ (h _ _ _ (itr_list hR) (fun _ _ _ _ _ hi hq => wpAny_pyIter_listiter hi hq) (push _).1 (push _).2 hI (Nat.le_refl _) ⟨_, Heap.get?_push_size _ rfl, rfl, rfl⟩)
  | dict d es ep _ hd =>
    cases r
    obtain ⟨kvs, hm, pr⟩ := rh.sto d _ hd
    exact wpAny_pyIter_dict (rh.notMod hd) hm (h _ _ _ (itr_dict hR) (fun _ _ _ _ _ hi hq => wpAny_pyIter_keyiter hi hq) (push _).1 (push _).2 hI (Nat.le_refl _) ⟨_, Heap.get?_push_size _ rfl, rfl, by rw [pr.length]; rfl⟩)
  | vals d es ep _ hd =>
    obtain ⟨p, rfl, e, hn⟩ := r
    obtain ⟨kvs, hm, pr⟩ := rh.sto d _ hd
    exact wpAny_pyIter_values ⟨_, e, rfl, rfl⟩ hm (h _ _ _ (itr_vals hR) (fun _ _ _ _ _ hi hq => wpAny_pyIter_valiter hi hq) (push _).1 (push _).2 hI (Nat.le_refl _) ⟨_, Heap.get?_push_size _ rfl, rfl, by rw [pr.length]; rfl⟩)
  | items d es ep _ htp hd =>
    subst htp
    obtain ⟨p, rfl, e, hn⟩ := r
    obtain ⟨kvs, hm, pr⟩ := rh.sto d _ hd
    exact wpAny_pyIter_items ⟨_, e, rfl, rfl⟩ hm (h _ _ _ (itr_items hR) (fun hv => absurd rfl (hv d)) (push _).1 (push _).2 hI (Nat.le_refl _) ⟨_, _, by rw [← pr.length]; exact Heap.get?_push_size _ rfl⟩)
end
end Mine
-- MjG
namespace Mine

noncomputable def Sub (σ' σ : Sto) : Prop := ∀ a o, σ' a = some o → σ a = some o
theorem Sub.refl (σ : Sto) : Sub σ σ := fun _ _ h => h
theorem Sub.none {σ' σ : Sto} (h : Sub σ' σ) {a : Addr} (e : σ a = Option.none) : σ' a = Option.none := by
  cases q : σ' a with
  | none => rfl
  | some o => have := h a o q; rw [e] at this; cases this
mutual
theorem RelV.sub {σ σ' : Sto} {h : Heap} (x : Sub σ' σ) : ∀ (av : AV) {v : Value}, RelV σ h av v → RelV σ' h av v
  | .none, _, h => h
  | .bool _, _, h => h
  | .int _, _, h => h
  | .str _, _, h => h
  | .tup xs, _, ⟨a, vs, e, h1, h2, h3⟩ => ⟨a, vs, e, h1, x.none h2, RelVs.sub x xs h3⟩
  | .rng _ _ _, _, ⟨p, t, u, w, e, h1, h2⟩ => ⟨p, t, u, w, e, h1, x.none h2⟩
  | .vw k d, _, ⟨p, e, h1, h2⟩ => ⟨p, e, h1, x.none h2⟩
  | .wrap I, _, ⟨p, e, h1, h2⟩ => ⟨p, e, h1, x.none h2⟩
  | .ptr _, _, h => h
  | .con _, _, h => h
theorem RelVs.sub {σ σ' : Sto} {h : Heap} (x : Sub σ' σ) : ∀ (xs : List AV) {vs : List Value}, RelVs σ h xs vs → RelVs σ' h xs vs
  | [], _, h => h
  | a :: xs, _, ⟨v, vs', e, h1, h2⟩ => ⟨v, vs', e, RelV.sub x a h1, RelVs.sub x xs h2⟩
end
theorem RelO.sub {σ σ' : Sto} {h : Heap} (x : Sub σ' σ) : ∀ {o : Option AV} {v : Option Value}, RelO σ h o v → RelO σ' h o v
  | some _, some _, h => RelV.sub x _ h
  | some _, Option.none, h => h.elim
  | Option.none, some _, h => h.elim
  | Option.none, Option.none, _ => trivial
theorem AttrE.sub {w : World} {σ σ' : Sto} {h : Heap} (x : Sub σ' σ) : ∀ {fs : List (Str × AV)} {es : List DictEntry}, AttrE w σ h fs es → AttrE w σ' h fs es
  | [], _, h => h
  | (_, _) :: _, _, ⟨t, v, es', e, h1, h2⟩ => ⟨t, v, es', e, RelV.sub x _ h1, AttrE.sub x h2⟩
theorem PairE.sub {σ σ' : Sto} {h : Heap} (x : Sub σ' σ) : ∀ {fs : List (Int × AV)} {es : List (Int × Value)}, PairE σ h fs es → PairE σ' h fs es
  | [], _, h => h
  | (_, _) :: _, _, ⟨v, es', e, h1, h2⟩ => ⟨v, es', e, RelV.sub x _ h1, PairE.sub x h2⟩
theorem SlotE.sub {σ σ' : Sto} {h : Heap} (x : Sub σ' σ) : ∀ {fs : List (Option AV)} {es : List (Option Value)}, SlotE σ h fs es → SlotE σ' h fs es
  | [], _, h => h
  | _ :: _, _, ⟨v, es', e, h1, h2⟩ => ⟨v, es', e, RelO.sub x h1, SlotE.sub x h2⟩
theorem RepO.sub {B : Bs} {σ σ' : Sto} {h : Heap} {a : Addr} {o : AObj} (x : Sub σ' σ) (r : RepO B σ h a o) : RepO B σ' h a o := by
  cases o with
  | list xs => obtain ⟨vs, n, h, q⟩ := r; exact ⟨vs, n, h, RelVs.sub x _ q⟩
  | dict es ep => obtain ⟨kvs, h, q⟩ := r; exact ⟨kvs, h, PairE.sub x q⟩
  | inst C dx => exact r
  | attrs fs => obtain ⟨es, n, h, q⟩ := r; exact ⟨es, n, h, AttrE.sub x q⟩
  | slots C dx vs => obtain ⟨sl, h, q⟩ := r; exact ⟨sl, h, SlotE.sub x q⟩
  | set xs => exact r
  | liter l i => exact r
theorem RH.sub {B : Bs} {σ σ' : Sto} {s : Shared} (x : Sub σ' σ) (h : RH B σ s) : RH B σ' s where
  old := h.old
  gens := h.gens
  os := h.os
  sto := fun a o e => (h.sto a o (x a o e)).sub x
  new := fun a ha => h.new a (fun z => ha (x.none z))
  size := h.size
theorem RelX.sub {σ σ' : Sto} {h : Heap} {n : Nat} {e : Value} {y : AX} (x : Sub σ' σ) (r : RelX σ h n e y) : RelX σ' h n e y := by
  obtain ⟨ea, oe, vs, tv, h1, h2, h3, h4, h5, h6, h7, h8, h9, hc, h10⟩ := r
  refine ⟨ea, oe, vs, tv, h1, h2, h3, h4, h5, RelV.sub x _ h6, h7, x.none h8, h9, hc, ?_⟩
  rcases h10 with q | ⟨T, oT, ts, a, b, c, d, e, f, g, g'⟩
  · exact .inl q
  · exact .inr ⟨T, oT, ts, a, b, c, d, x.none e, f, g, g'⟩

section
variable {B : Bs} {fc : FC} {R R' : Rm} {env : Env} {A : Around}

noncomputable def outV : Out → AV
  | .ret v => v
  | _ => .none

theorem Ext.leave {W : Addr → Prop} {σ σ₂ σ' : Sto} {s s₁ s₂ : Shared} (x₁ : Ext NoW σ s σ s₁) (x₂ : Ext W σ s₁ σ₂ s₂) (hW : ∀ b, W b → s.heap.objs.size ≤ b) (hs : Sub σ' σ₂) : Ext NoW σ s σ' s₂ where
  keep := fun b o h1 h2 e => by
    obtain ⟨o', e', k⟩ := x₁.keep b o h1 h2 e
    obtain ⟨o'', e'', k'⟩ := x₂.keep b o' h1 (fun hw => absurd (hW b hw) (Nat.not_le.mpr (Heap.lt_size e))) e'
    exact ⟨o'', e'', k.trans k'⟩
  dom := fun a h1 h2 => Nat.le_trans x₁.size (x₂.dom a h1 fun z => h2 (hs.none z))
  size := Nat.le_trans x₁.size x₂.size
  nt := fun _ _ h => h.elim

theorem body_ok {σ : Sto} {s s₁ : Shared} {m₀ : List (Option AV)} {body : List Stmt} {d : SD} {Q : AV → Sto → Prop} {X : AX → Sto → Prop} (rh : RH B σ s) (x₁ : Ext NoW σ s σ s₁) (S : St B fc env A R ⟨m₀, σ⟩ s₁)
    (hW : ∀ b, Wf fc env b → s.heap.objs.size ≤ b) (hh : ∀ b, s.heap.objs.size ≤ b → A.handled ≠ some (.ref b)) (hb : SemSs B fc R body d)
    (hd : d ⟨m₀, σ⟩ (fun o st => ∃ σ', Sub σ' st.σ ∧ Q (outV o) σ') (fun x st => ∃ σ', Sub σ' st.σ ∧ X x σ')) :
    wpAny B.M A (execs body env) (fun f s' => PO B σ s Q (match f with | .ret v => v | _ => .none) s')
      (fun e s' => wpAny B.M A (leaving env e) (fun _ s'' => PXo B σ s X e s'') (fun e' s'' => PXo B σ s X e' s'') s') s₁ := by
  refine wpAny_mono (hb env A _ s₁ _ _ S hd) ?_ ?_
  · rintro f s' ⟨o, st', S', x', r, σ', hs, q⟩
    refine ⟨outV o, σ', S'.rh.sub hs, x₁.leave x' hW hs, ?_, q⟩
    cases o with
    | ret v => obtain ⟨v', rfl, r⟩ := r; exact RelV.sub hs _ r
    | next => cases r; exact rfl
    | brk => cases r; exact rfl
    | cont => cases r; exact rfl
  · rintro e s' ⟨x, st', S', x', r, σ', hs, q⟩
    unfold leaving
    have r := r.le x₁.size
    refine wpAny_bind (noteFrame_ok S' r rh.size (Nat.le_trans x₁.size x'.size) hh fun s₂ P S₂ hP y₂ r₂ nt => ?_)
    obtain ⟨ea, oe, vs, tv, rfl, h2, h3, h4, h5, h6, h7, h8, h9, hc, h10⟩ := r₂
    obtain ⟨ea', oe', vs', T', e1, e2, e3, e4⟩ := nt
    cases e1
    rw [h2] at e2; cases e2
    rw [h4] at e3; cases e3
    rcases h10 with z | ⟨T, oT, ts, hq, hT, hdT, hs3, hσT, hnT, hTe, hcT⟩
    · rw [z] at e4; cases e4
    · unfold setFlight
      refine wpAny_bind (wpAny_field h2 h4 hq ?_)
      rw [if_pos (show (Value.ref T != Value.none) = true from by simp)]
      refine set_young (s' := s) S₂ (hh T hnT) hT hdT hs3 hσT (Nat.le_trans rh.size hnT) hcT fun s₃ S₃ x₃ o₃ a₃ z₃ => ?_
      have xx := ((x₁.leave x' hW (Sub.refl _)).transX y₂ hP).transX x₃ (fun b hb => hb ▸ hnT)
      refine ⟨x, σ', S₃.rh.sub hs, ⟨xx.keep, fun a h1 h2 => xx.dom a h1 fun z => h2 (hs.none z), xx.size, xx.nt⟩, RelX.sub hs ?_, q⟩
      exact ⟨ea, oe, vs, tv, rfl, (o₃ ea (Ne.symm hTe)).trans h2, h3, h4, h5, RelV.ext x₃ _ h6, h7, h8, h9, hc, .inr ⟨T, _, _, hq, a₃, Obj.data_mapFields hdT _, by simp [hs3], hσT, hnT, hTe, by rw [Obj.cls_mapFields]; exact hcT⟩⟩

inductive SlotAt : List (Str × SK) → Nat → Str → SK → Prop
  | head {x : Str} {k : SK} {l : List (Str × SK)} : SlotAt ((x, k) :: l) 0 x k
  | tail {p : Str × SK} {l : List (Str × SK)} {i : Nat} {x : Str} {k : SK} : SlotAt l i x k → SlotAt (p :: l) (i + 1) x k
theorem SlotAt.get {l : List (Str × SK)} {i : Nat} {x : Str} {k : SK} (h : SlotAt l i x k) : l[i]? = some (x, k) := by
  induction h with
  | head => rfl
  | tail _ ih => simpa using ih

structure FnOk (B : Bs) (f : Addr) (fd : FuncData) (body : List Stmt) : Prop where
  at_ : ∃ ob, B.K.lookup f = some ob ∧ ob.data = .func fd
  body : fd.body = .stmts body
  code : codeIn B.K fd.code fd.qualname = true
  glob : fd.globals = mainGlobals
  blt : fd.builtins = builtinsNs
  clo : fd.closure = []
  co : fd.scope.isCoroutine = false
  gen : fd.scope.isGenerator = false
  kind : fd.scope.kind = .function

theorem mem_zip_fst {α β : Type} : ∀ {l : List α} {r : List β} {p : α × β}, p ∈ l.zip r → p.1 ∈ l
  | a :: l, b :: r, _, .head _ => .head _
  | a :: l, b :: r, _, .tail _ h => .tail _ (mem_zip_fst h)

theorem lookup_rev_mem {l : List (Str × Value)} {x : Str} (h : ∀ p ∈ l, p.1 ≠ x) : l.reverse.lookup x = Option.none := by
  induction l with
  | nil => rfl
  | cons p l ih =>
    rw [List.reverse_cons, List.lookup_append, ih fun q hq => h q (.tail _ hq)]
    obtain ⟨a, b⟩ := p
    have hb : (x == a) = false := beq_eq_false_iff_ne.mpr fun z => h (a, b) (.head _) z.symm
    simp [List.lookup, hb]
theorem lookup_zip_rev {ps : List Str} {vs : List Value} {i : Nat} {x : Str} {v : Value} (nd : ps.Nodup) (h1 : ps[i]? = some x) (h2 : vs[i]? = some v) : (ps.zip vs).reverse.lookup x = some v := by
  induction ps generalizing vs i with
  | nil => simp at h1
  | cons p ps ih =>
    cases vs with
    | nil => simp at h2
    | cons w vs =>
      rw [List.zip_cons_cons, List.reverse_cons, List.lookup_append]
      cases i with
      | zero =>
        simp at h1 h2
        subst h1; subst h2
        rw [lookup_rev_mem (x := p) fun q hq z => (List.nodup_cons.mp nd).1 (by rw [← z]; exact mem_zip_fst hq)]
        simp [List.lookup]
      | succ i =>
        simp only [List.getElem?_cons_succ] at h1 h2
        rw [ih (List.nodup_cons.mp nd).2 h1 h2]
        rfl

theorem lget_map_some {avs : List AV} {k i : Nat} : lget (avs.map some ++ List.replicate k Option.none) i = avs[i]? := by
  induction avs generalizing i with
  | nil =>
    simp only [List.map_nil, List.nil_append, List.getElem?_nil]
    induction k generalizing i with
    | zero => rfl
    | succ k ih => cases i with
      | zero => rfl
      | succ i => simpa [List.replicate_succ, lget] using ih
  | cons a avs ih => cases i with
    | zero => rfl
    | succ i => simpa [lget] using ih

end
end Mine
-- MjH
namespace Mine

noncomputable def upd (σ : Sto) (a : Addr) (o : AObj) : Sto := fun b => if b = a then some o else σ b
theorem upd_self (σ : Sto) (a : Addr) (o : AObj) : upd σ a o a = some o := by simp [upd]
theorem upd_ne (σ : Sto) {a b : Addr} (o : AObj) (h : b ≠ a) : upd σ a o b = σ b := by simp [upd, h]

section
variable {B : Bs} {fc : FC} {R R' : Rm} {env : Env} {A : Around}

theorem ext_upd {σ : Sto} {s : Shared} {a : Addr} {o o' : AObj} {h' : Heap} {t : Nat} (ho : σ a = some o) (sb : Heap.SameBut a s.heap h') : Ext NoW σ s (upd σ a o') { s with heap := h', toks := t } where
  keep := fun b ob h1 _ e => ⟨ob, (sb.2 b fun z => by subst z; rw [ho] at h1; cases h1).trans e, .refl ob⟩
  dom := fun b h1 h2 => by
    by_cases q : b = a
    · subst q; rw [ho] at h1; cases h1
    · rw [upd_ne _ _ q] at h2; exact absurd h1 h2
  size := Nat.le_of_eq sb.1.symm
  nt := fun _ _ h => h.elim
theorem rh_upd {σ : Sto} {s : Shared} {a : Addr} {o o' : AObj} {h' : Heap} {t : Nat} (rh : RH B σ s) (ho : σ a = some o) (sb : Heap.SameBut a s.heap h') (hr : RepO B (upd σ a o') h' a o') : RH B (upd σ a o') { s with heap := h', toks := t } where
  old := fun b ob e => (sb.2 b fun z => by
    have h1 := rh.new a (by rw [ho]; exact fun z => nomatch z)
    have h2 := Heap.lt_size e
    rw [z] at h2
    exact absurd h2 (Nat.not_lt.mpr h1)).trans (rh.old b ob e)
  gens := rh.gens
  os := rh.os
  sto := fun b ob e => by
    by_cases q : b = a
    · subst q; rw [upd_self] at e; cases e; exact hr
    · rw [upd_ne _ _ q] at e
      exact (rh.sto b ob e).move (ext_upd (o' := o') (t := t) ho sb) fun ob' e' => (sb.2 b q).trans e'
  new := fun b hb => by
    by_cases q : b = a
    · rw [q]; exact rh.new a (by rw [ho]; exact fun z => nomatch z)
    · rw [upd_ne _ _ q] at hb; exact rh.new b hb
  size := Nat.le_trans rh.size (Nat.le_of_eq sb.1.symm)

noncomputable def oAdd : AV → AV → OD := fun a b σ Q _ => match a, b with
  | .int x, .int y => Q (.int (x + y)) σ
  | _, _ => False
noncomputable def oSub : AV → AV → OD := fun a b σ Q _ => match a, b with
  | .int x, .int y => Q (.int (x - y)) σ
  | _, _ => False
noncomputable def oMul : AV → AV → OD := fun a b σ Q _ => match a, b with
  | .int x, .int y => IntMulOk x y ∧ Q (.int (x * y)) σ
  | _, _ => False
noncomputable def oMod : AV → AV → OD := fun a b σ Q _ => match a, b with
  | .int x, .int y => y ≠ 0 ∧ Q (.int (x.fmod y)) σ
  | _, _ => False
noncomputable def oDiv : AV → AV → OD := fun a b σ Q _ => match a, b with
  | .int x, .int y => (y ≠ 0 ∧ Builtin.divisionGoesByPylong x y = false) ∧ Q (.int (x.fdiv y)) σ
  | _, _ => False
noncomputable def oShr1 : AV → AV → OD := fun a b σ Q _ => match a, b with
  | .int x, .int y => (y = 1 ∧ 0 ≤ x) ∧ Q (.int (x.fdiv 2)) σ
  | _, _ => False

theorem PO.int {σ : Sto} {s : Shared} {Q : AV → Sto → Prop} {i : Int} {t u : Nat} (rh : RH B σ s) (h : Q (.int i) σ) : PO B σ s Q (.int i t) { s with toks := u } :=
  ⟨.int i, σ, rh.toks _, Ext.toks _ _ _, ⟨t, rfl⟩, h⟩
theorem PO.bool {σ : Sto} {s : Shared} {Q : AV → Sto → Prop} {b : Bool} (rh : RH B σ s) (h : Q (.bool b) σ) : PO B σ s Q (.bool b) s :=
  ⟨.bool b, σ, rh, Ext.refl _ _, rfl, h⟩

theorem semAdd_int : SemO2 B R (binaryOp .Add) oAdd := by
  intro A σ s a v b u Q X ao rh ra rb h
  unfold oAdd at h
  split at h
  · obtain ⟨t, rfl⟩ := ra; obtain ⟨t', rfl⟩ := rb
    exact AutoIntOps.add_0 (PO.int rh h)
  · exact h.elim
theorem semSub : SemO2 B R (binaryOp .Sub) oSub := by
  intro A σ s a v b u Q X ao rh ra rb h
  unfold oSub at h
  split at h
  · obtain ⟨t, rfl⟩ := ra; obtain ⟨t', rfl⟩ := rb
    exact AutoIntOps.sub_0 (PO.int rh h)
  · exact h.elim
theorem semMul : SemO2 B R (binaryOp .Mult) oMul := by
  intro A σ s a v b u Q X ao rh ra rb h
  unfold oMul at h
  split at h
  · obtain ⟨t, rfl⟩ := ra; obtain ⟨t', rfl⟩ := rb
    exact AutoIntOps.mul_0 (PO.int rh h.2) h.1
  · exact h.elim
theorem semMod : SemO2 B R (binaryOp .Mod) oMod := by
  intro A σ s a v b u Q X ao rh ra rb h
  unfold oMod at h
  split at h
  · obtain ⟨t, rfl⟩ := ra; obtain ⟨t', rfl⟩ := rb
    exact AutoIntOps.mod_1 (by simpa using h.1) (PO.int rh h.2)
  · exact h.elim
theorem semDiv : SemO2 B R (binaryOp .FloorDiv) oDiv := by
  intro A σ s a v b u Q X ao rh ra rb h
  unfold oDiv at h
  split at h
  · obtain ⟨t, rfl⟩ := ra; obtain ⟨t', rfl⟩ := rb
    exact AutoIntOps.floordiv_1 (by simpa using h.1.1) (by rw [h.1.2]; simp) (PO.int rh h.2)
  · exact h.elim
theorem semShr1 : SemO2 B R (binaryOp .RShift) oShr1 := by
  intro A σ s a v b u Q X ao rh ra rb h
  unfold oShr1 at h
  split at h
  · rename_i x y
    obtain ⟨t, rfl⟩ := ra; obtain ⟨t', rfl⟩ := rb
    obtain ⟨⟨rfl, hx⟩, hq⟩ := h
    by_cases hc : (1 : Int) ≥ ((Builtin.Int.intBits x : Nat) : Int)
    · refine AutoIntOps.rshift_1 (by decide) hc (PO.int rh ?_)
      have hb : x = 0 ∨ x = 1 := by
        unfold Builtin.Int.intBits at hc
        by_cases h0 : x = 0
        · exact .inl h0
        · have hb : (x == 0) = false := by simpa using h0
          rw [hb] at hc
          simp only [Bool.false_eq_true, if_false] at hc
          have hl : x.natAbs.log2 = 0 := by omega
          have hn : x.natAbs ≠ 0 := by omega
          have := (Nat.log2_lt (n := x.natAbs) (k := 1) hn).mp (by omega)
          right; omega
      rcases hb with rfl | rfl <;> simpa using hq
    · exact AutoIntOps.rshift_2 (by decide) hc (PO.int rh (by simpa using hq))
  · exact h.elim

noncomputable def oLt : AV → AV → OD := fun a b σ Q _ => match a, b with
  | .int x, .int y => Q (.bool (decide (x < y))) σ
  | .tup as, .tup bs => ∃ x x' y y', as = [.int x, .int x'] ∧ bs = [.int y, .int y'] ∧ Q (.bool (decide (x < y ∨ x = y ∧ x' < y'))) σ
  | _, _ => False
noncomputable def oCmp (f : Int → Int → Bool) : AV → AV → OD := fun a b σ Q _ => match a, b with
  | .int x, .int y => Q (.bool (f x y)) σ
  | _, _ => False
theorem semGt : SemO2 B R (compareOp .Gt) (oCmp fun x y => decide (x > y)) := by
  intro A σ s a v b u Q X ao rh ra rb h
  unfold oCmp at h
  split at h
  · obtain ⟨t, rfl⟩ := ra; obtain ⟨t', rfl⟩ := rb
    exact PySem.P.gt_int (PO.bool rh h)
  · exact h.elim
theorem semLe : SemO2 B R (compareOp .LtE) (oCmp fun x y => decide (x ≤ y)) := by
  intro A σ s a v b u Q X ao rh ra rb h
  unfold oCmp at h
  split at h
  · obtain ⟨t, rfl⟩ := ra; obtain ⟨t', rfl⟩ := rb
    exact PySem.P.le_int (PO.bool rh h)
  · exact h.elim
theorem tuple_lt (l b : Addr) (x x' y y' : Int) (t t' u u' : Tok) (n n2 : Nat) (dd dd2 : Option Addr) (sl sl2 : Array (Option Value)) :
    Meets (Builtin.«tuple.__lt__» ⟨[.ref l, .ref b], []⟩)
      (fun A R s => s.heap.get? l = some { cls := .type "tuple", dict := dd, data := .seq #[.int x t, .int x' t'] n, slots := sl } ∧ s.heap.get? b = some { cls := .type "tuple", dict := dd2, data := .seq #[.int y u, .int y' u'] n2, slots := sl2 } ∧
        R (.ok (.ret (.bool (decide (x < y ∨ x = y ∧ x' < y'))))) s) :=
  .of_wp fun prog w A R s h => by
    obtain ⟨hp, g, d, tk, os⟩ := s; obtain ⟨hl, hb, h⟩ := h
    have f2 := AutoSeq1.sub_tuple_tuple
    have stop : ∀ (p q : Int) (tp tq : Tok) (r : Bool) (s₀ : Shared) (Q : ForInStep (Option Fin × Unit) → Shared → Prop) (E : Value → Shared → Prop), p ≠ q → Q (.done (some (.done (.ret (.bool (decide (p < q))))), ())) s₀ →
        wpAny (model prog w) A.in1 (do
          rule "tuple.compare.by-the-first-pair-that-differs"
          let r ← richCompare CmpOp.Lt (Value.int p tp) (Value.int q tq)
          let r ← ret r
          pure (ForInStep.done (some r, ()))) Q E s₀ := fun p q tp tq r s₀ Q E hne hQ =>
      wpAny_bind (wpAny_rule (wpAny_bind (PySem.P.lt_int (wpAny_bind (wpAny_pure (wpAny_pure hQ))))))
    wp_walk using AutoSeq1.wpAny_loadPart' hl, AutoSeq1.wpAny_loadPart' hb, wpAny_forIn_list _ (fun rest b s' => b.1 = none ∧ s' = ⟨hp, g, d, tk, os⟩ ∧
      (rest = [(Value.int x t, Value.int y u), (.int x' t', .int y' u')] ∨ (rest = [(.int x' t', .int y' u')] ∧ x = y) ∨ (rest = [] ∧ x = y ∧ x' = y'))) _
    case turn =>
      rintro ⟨p, q⟩ rest b s' ⟨hb', rfl, hz⟩
      rcases hz with hz | ⟨hz, hxy⟩ | ⟨hz, _⟩
      · cases hz
        refine wpAny_bind (wpAny_eqBool_int ?_)
        by_cases e : x = y
        · have : (x == y) = true := by simpa using e
          rw [this]
          exact wpAny_pure ⟨rfl, rfl, .inr (.inl ⟨rfl, e⟩)⟩
        · have : (x == y) = false := by simpa using e
          rw [this]
          refine stop x y t u false _ _ _ e ?_
          wp_walk
          refine ⟨_, rfl, ?_⟩
          have q : decide (x < y) = decide (x < y ∨ x = y ∧ x' < y') := by simp [e]
          rw [q]; exact h
      · cases hz
        refine wpAny_bind (wpAny_eqBool_int ?_)
        by_cases e : x' = y'
        · have : (x' == y') = true := by simpa using e
          rw [this]
          exact wpAny_pure ⟨rfl, rfl, .inr (.inr ⟨rfl, hxy, e⟩)⟩
        · have : (x' == y') = false := by simpa using e
          rw [this]
          refine stop x' y' t' u' false _ _ _ e ?_
          wp_walk
          refine ⟨_, rfl, ?_⟩
          have q : decide (x' < y') = decide (x < y ∨ x = y ∧ x' < y') := by simp [hxy]
          rw [q]; exact h
      · cases hz
    case fin =>
      rintro ⟨b1, b2⟩ s' ⟨hb', rfl, hz⟩
      simp only at hb'
      subst hb'
      rcases hz with hz | ⟨hz, hxy⟩ | ⟨hz, e1, e2⟩
      · cases hz
      · cases hz
      · wp_walk
        refine ⟨_, rfl, ?_⟩
        have q : decide (x < y ∨ x = y ∧ x' < y') = false := by simp [e1, e2]
        rw [q] at h
        simpa [Builtin.Tuple.tupleCompareSizes] using h
    case h =>
      exact ⟨rfl, rfl, .inl rfl⟩

theorem semLt : SemO2 B R (compareOp .Lt) oLt := by
  intro A σ s a v b u Q X ao rh ra rb h
  unfold oLt at h
  split at h
  · obtain ⟨t, rfl⟩ := ra; obtain ⟨t', rfl⟩ := rb
    exact PySem.P.lt_int (PO.bool rh h)
  · obtain ⟨x, x', y, y', rfl, rfl, h⟩ := h
    obtain ⟨p, vs, rfl, e1, n1, v1, vs1, rfl, ⟨t1, rfl⟩, v2, vs2, rfl, ⟨t2, rfl⟩, rfl⟩ := ra
    obtain ⟨q, ws, rfl, e2, n2, w1, ws1, rfl, ⟨t3, rfl⟩, w2, ws2, rfl, ⟨t4, rfl⟩, rfl⟩ := rb
    have hu : A.units < cLine := by have := ao.units; unfold cLine; omega
    show wpAny _ _ (richCompare .Lt _ _) _ _ _
    exact richCompare_meets_room (op := .Lt) ⟨_, e1, rfl⟩ ⟨_, e2, rfl⟩ F.slot_tuple_lt F.entry_tuple_lt (F.args_tuple_lt_2 _ _) (tuple_lt p q x x' y y' t1 t2 t3 t4 0 0 none none #[] #[])
      ⟨e1, e2, (show Value.bool _ ≠ Value.notImplemented ∧ PO B σ s Q (.bool _) s from ⟨(fun x => nomatch x), PO.bool rh h⟩)⟩ hu
  · exact h.elim

noncomputable def tru : AV → Sto → (Bool → Prop) → Prop := fun a σ Q => match a with
  | .bool b => Q b
  | .none => Q false
  | .int i => Q (i != 0)
  | .tup xs => xs.length < 1000 ∧ Q (!xs.isEmpty)
  | .ptr p => ∃ xs, (σ p = some (.list xs) ∧ xs.length < 1000) ∧ Q (!xs.isEmpty)
  | _ => False

theorem relVs_empty {σ : Sto} {h : Heap} {xs : List AV} {vs : List Value} (r : RelVs σ h xs vs) : vs.toArray.isEmpty = xs.isEmpty := by
  have := r.length
  cases xs <;> cases vs <;> simp_all

theorem semTru : SemT B R truthy tru := by
  intro A σ s a v Q E ao rh ra h
  unfold tru at h
  split at h
  · cases ra; exact wpAny_truthy_bool ⟨rh, Ext.refl _ _, h⟩
  · cases ra; exact PyProof.Rows.truthy_none ⟨rh, Ext.refl _ _, h⟩
  · obtain ⟨t, rfl⟩ := ra; exact PySem.P.truthy_int ⟨rh, Ext.refl _ _, h⟩
  · obtain ⟨p, vs, rfl, e, n, r⟩ := ra
    refine truthy_tuple ⟨_, e, rfl, 0, rfl⟩ (by have := r.length; simp; omega) ⟨rh.toks _, Ext.toks _ _ _, ?_⟩
    rw [relVs_empty r]; exact h.2
  · cases ra
    obtain ⟨xs, ⟨e, hl⟩, hq⟩ := h
    obtain ⟨vs, n, e', r⟩ := rh.sto _ _ e
    refine wpAny_truthy_list ⟨_, e', rfl, n, rfl⟩ (by have := r.length; simp; omega) ⟨rh.toks _, Ext.toks _ _ _, ?_⟩
    rw [relVs_empty r]; exact hq
  · exact h.elim
end
end Mine
-- MjI
namespace Mine

section
variable {B : Bs} {fc : FC} {R R' : Rm} {env : Env} {A : Around}

noncomputable def Evs : List ED → AS → (List AV → AS → Prop) → QX → Prop
  | [], st, Q, _ => Q [] st
  | d :: ds, st, Q, X => d st (fun v st => Evs ds st (fun vs st => Q (v :: vs) st) X) X

noncomputable def SemAs (B : Bs) (fc : FC) (R : Rm) (es : List Expr) (ds : List ED) : Prop :=
  ∀ env A st s Q X pos, St B fc env A R st s → Evs ds st Q X → wpAny B.M A (spliced (backTo pos (starEach es env))) (PVs B fc env A R st s Q) (PX B fc env A R st s X) s
theorem SemAs_nil : SemAs B fc R [] [] := by
  intro env A st s Q X pos S d
  exact Calls.spliced_nil ⟨[], st, S, S.refl, rfl, d⟩
noncomputable def notStar : Expr → Bool
  | .Starred .. => false
  | _ => true
theorem starEach_cons {e : Expr} (h : notStar e = true) (es : List Expr) (env : Env) : starEach (e :: es) env = (false, eval e env) :: starEach es env := by
  cases e <;> first | rfl | cases h
theorem SemAs_cons {e : Expr} {es : List Expr} {d : ED} {ds : List ED} (he : notStar e = true) (h : SemE B fc R e d) (hs : SemAs B fc R es ds) : SemAs B fc R (e :: es) (d :: ds) := by
  intro env A st s Q X pos S q
  rw [starEach_cons he]
  show wpAny B.M A (spliced ((false, eval e env) :: backTo pos (starEach es env))) _ _ s
  refine Calls.spliced_cons (wpAny_mono (h env A st s _ X S q) ?_ fun _ _ e => e)
  refine fun v s₁ => PV.el fun av st₁ S₁ x₁ r₁ q₁ => ?_
  refine wpAny_mono (hs env A st₁ s₁ _ X pos S₁ q₁) ?_ fun _ _ e => e.of x₁
  refine fun vs s₂ => PVs.el fun avs st₂ S₂ x₂ r₂ q₂ => ?_
  exact ⟨av :: avs, st₂, S₂, x₁.trans x₂, ⟨v, vs, rfl, RelV.ext x₂ _ r₁, r₂⟩, q₂⟩

theorem plainAs {es : List Expr} (h : es.all notStar = true) (pos : Pos) (env : Env) : (backTo pos (starEach es env)).any (·.1) = false := by
  induction es with
  | nil => rfl
  | cons e es ih =>
    simp only [List.all_cons, Bool.and_eq_true] at h
    rw [starEach_cons h.1]
    show (false || (backTo pos (starEach es env)).any (·.1)) = false
    rw [ih h.2]; rfl
theorem evalArgs_ok {es : List Expr} {ds : List ED} {f : Value} {st : AS} {s : Shared} {pos : Pos} {Q : List AV → AS → Prop} {X : QX} {P : Args → Shared → Prop} {E : Value → Shared → Prop} (hs : SemAs B fc R es ds) (hns : es.all notStar = true) (S : St B fc env A R st s) (d : Evs ds st Q X)
    (hP : ∀ vs s', PVs B fc env A R st s Q vs s' → P ⟨vs, []⟩ s') (hE : ∀ e s', PX B fc env A R st s X e s' → E e s') : wpAny B.M A (evalArgs f true (backTo pos (starEach es env)) []) P E s := by
  have h := wpAny_mono (hs env A st s Q X pos S d) (fun vs s' q => hP vs s' q) hE
  cases es with
  | nil =>
    unfold evalArgs
    show wpAny B.M A (spliced [] >>= _) P E s
    refine wpAny_bind (wpAny_mono h (fun vs s' q => ?_) fun _ _ e => e)
    refine wpAny_bind (wpAny_pure ?_)
    refine wpAny_holding ?_
    exact wpAny_bind (wpAny_pure (wpAny_bind (wpAny_pure (wpAny_pure q))))
  | cons e es =>
    simp only [List.all_cons, Bool.and_eq_true] at hns
    rw [starEach_cons hns.1] at h ⊢
    exact Calls.evalArgs_plain h


noncomputable def Cal (f : List AV → OD) (ds : List ED) : ED := fun st Q X => Evs ds st (fun vs st => f vs st.σ (fun r σ => Q r ⟨st.m, σ⟩) (fun x σ => X x ⟨st.m, σ⟩)) X

theorem call_ok {f : List AV → OD} {t : List Value → Sem Value} {st : AS} {s s₁ : Shared} {Q : AV → AS → Prop} {X : QX} {vs : List Value} (hf : SemOn B R t f)
    (h : PVs B fc env A R st s (fun vs st => f vs st.σ (fun r σ => Q r ⟨st.m, σ⟩) (fun x σ => X x ⟨st.m, σ⟩)) vs s₁) : wpAny B.M A (t vs) (PV B fc env A R st s Q) (PX B fc env A R st s X) s₁ := by
  obtain ⟨avs, st₁, S₁, x₁, r₁, q₁⟩ := h
  exact wpAny_mono (hf A st₁.σ s₁ avs vs _ _ S₁.ao S₁.rh r₁ q₁) (fun v s' h => (PV.op S₁ h).of x₁) fun v s' h => (PX.op S₁ h).of x₁

theorem SemE_callB {x : Str} {p pos : Pos} {id : String} {es : List Expr} {ds : List ED} {f : List AV → OD} (hn : SemE B fc R (.Name x p) (Con (.con (.builtin id)))) (hs : SemAs B fc R es ds) (hns : es.all notStar = true)
    (hf : SemOn B R (fun vs => call (.builtin id) vs) f) : SemE B fc R (.Call (.Name x p) es [] pos) (Cal f ds) := by
  intro env A st s Q X S d
  rw [arm_eval_Call_Name']
  refine wpAny_bind (wpAny_mono (hn env A st s (fun v st' => v = .con (.builtin id) ∧ Cal f ds st' Q X) X S ⟨rfl, d⟩) ?_ fun _ _ e => e)
  refine fun v s₁ => PV.el fun av st₁ S₁ x₁ r₁ qq => ?_
  obtain ⟨rfl, q₁⟩ := qq
  cases r₁
  refine Calls.callWith_builtin (plainAs hns pos env) (evalArgs_ok hs hns S₁ q₁ (fun vs s' h => ?_) fun e s' h => h.of x₁)
  exact wpAny_mono (call_ok hf h) (fun v s' h => h.of x₁) fun v s' h => h.of x₁
theorem SemE_callT {x : Str} {p pos : Pos} {T : String} {es : List Expr} {ds : List ED} {f : List AV → OD} (hn : SemE B fc R (.Name x p) (Con (.con (.type T)))) (hs : SemAs B fc R es ds) (hns : es.all notStar = true)
    (hf : SemOn B R (fun vs => call (.type T) vs) f) : SemE B fc R (.Call (.Name x p) es [] pos) (Cal f ds) := by
  intro env A st s Q X S d
  rw [arm_eval_Call_Name']
  refine wpAny_bind (wpAny_mono (hn env A st s (fun v st' => v = .con (.type T) ∧ Cal f ds st' Q X) X S ⟨rfl, d⟩) ?_ fun _ _ e => e)
  refine fun v s₁ => PV.el fun av st₁ S₁ x₁ r₁ qq => ?_
  obtain ⟨rfl, q₁⟩ := qq
  cases r₁
  refine PyProof.Rows.callWith_type (plainAs hns pos env) (evalArgs_ok hs hns S₁ q₁ (fun vs s' h => ?_) fun e s' h => h.of x₁)
  exact wpAny_mono (call_ok hf h) (fun v s' h => h.of x₁) fun v s' h => h.of x₁
noncomputable def Mth (pre : AV → Sto → Prop) (f : List AV → OD) (o : ED) (ds : List ED) : ED :=
  fun st Q X => o st (fun vo st => pre vo st.σ ∧ Evs ds st (fun vs st => f (vo :: vs) st.σ (fun r σ => Q r ⟨st.m, σ⟩) (fun x σ => X x ⟨st.m, σ⟩)) X) X

noncomputable def SemGM (B : Bs) (name : Str) (fn : Value) (pre : AV → Sto → Prop) : Prop :=
  ∀ A σ s av v pl (Q : Value × List Value → Shared → Prop) E, RH B σ s → RelV σ s.heap av v → pre av σ → Q (fn, [v]) s → wpAny B.M A (getMethod v name pl) Q E s

theorem meth_head {o : Expr} {name : Str} {apos pos : Pos} {es : List Expr} {fn : Value} {pre : AV → Sto → Prop} {od : ED} {ds : List ED} {f : List AV → OD} {st : AS} {s : Shared} {Q : AV → AS → Prop} {X : QX}
    (hbase : attributeBase o name env (eval o env) = eval o env) (hline : (apos.endLine == pos.line) = true) (hns : es.all notStar = true) (hlen : es.length < 30)
    (hg : SemGM B name fn pre) (ho : SemE B fc R o od) (S : St B fc env A R st s) (d : Mth pre f od ds st Q X)
    (h : ∀ ov s₁ st₁ vo, St B fc env A R st₁ s₁ → Ext (Wf fc env) st.σ s st₁.σ s₁ → RelV st₁.σ s₁.heap vo ov → Evs ds st₁ (fun vs st => f (vo :: vs) st.σ (fun r σ => Q r ⟨st.m, σ⟩) (fun x σ => X x ⟨st.m, σ⟩)) X →
      wpAny B.M A (callWith pos fn [ov] (backTo pos (starEach es env)) []) (PV B fc env A R st s Q) (PX B fc env A R st s X) s₁) :
    wpAny B.M A (eval (.Call (.Attribute o name apos) es [] pos) env) (PV B fc env A R st s Q) (PX B fc env A R st s X) s := by
  have hfew : methodCallForm (es.length + ([] : List Keyword).length) (backTo pos (starEach es env)) (backToKw pos (keywordEach [] env)) = true := by
    unfold methodCallForm
    have h1 : (backTo pos (starEach es env)).all (fun x => !x.1) = true := by
      have := plainAs hns pos env
      rw [List.any_eq_false] at this
      rw [List.all_eq_true]
      intro x hx
      simpa using this x hx
    rw [h1]
    show (true && true && decide _) = true
    simp; exact hlen
  rw [arm_eval_Call, hbase]
  refine wpAny_bind (wpAny_mono (ho env A st s _ X S d) ?_ fun _ _ e => e)
  refine fun ov s₁ => PV.el fun vo st₁ S₁ x₁ r₁ qq => ?_
  obtain ⟨hp, q₁⟩ := qq
  refine wpAny_bind (wpAny_standAt ?_)
  have hpos : methodCallPos true o env apos pos = pure pos := by unfold methodCallPos; simp [hline]
  unfold methodCall
  rw [hfew]
  refine wpAny_bind (wpAny_holding ?_)
  unfold calleeOf
  rw [if_pos rfl]
  exact hg A st₁.σ s₁ vo ov _ _ _ S₁.rh r₁ hp (wpAny_bind (wpAny_of_eq hpos (h ov s₁ st₁ vo S₁ x₁ r₁ q₁)))

theorem SemE_methB {o : Expr} {name : Str} {apos pos : Pos} {es : List Expr} {id : String} {pre : AV → Sto → Prop} {od : ED} {ds : List ED} {f : List AV → OD} (hbase : ∀ env, attributeBase o name env (eval o env) = eval o env) (hline : (apos.endLine == pos.line) = true)
    (hns : es.all notStar = true) (hlen : es.length < 30) (hg : SemGM B name (.builtin id) pre) (ho : SemE B fc R o od) (hs : SemAs B fc R es ds) (hf : SemOn B R (fun vs => call (.builtin id) vs) f) :
    SemE B fc R (.Call (.Attribute o name apos) es [] pos) (Mth pre f od ds) := by
  intro env A st s Q X S d
  refine meth_head (hbase env) hline hns hlen hg ho S d fun ov s₁ st₁ vo S₁ x₁ r₁ q₁ => ?_
  refine Calls.callWith_builtin (plainAs hns pos env) (evalArgs_ok hs hns S₁ q₁ (fun vs s' h => ?_) fun e s' h => h.of x₁)
  obtain ⟨avs, st₂, S₂, x₂, r₂, q₂⟩ := h
  have h' : PVs B fc env A R st s (fun vs st => f vs st.σ (fun r σ => Q r ⟨st.m, σ⟩) (fun x σ => X x ⟨st.m, σ⟩)) ([ov] ++ vs) s' := ⟨vo :: avs, st₂, S₂, x₁.trans x₂, ⟨ov, vs, rfl, RelV.ext x₂ _ r₁, r₂⟩, q₂⟩
  exact call_ok hf h'
theorem SemE_methF {o : Expr} {name : Str} {apos pos : Pos} {es : List Expr} {g : Addr} {fd : FuncData} {body : List Stmt} {pre : AV → Sto → Prop} {od : ED} {ds : List ED} {f : List AV → OD} (hbase : ∀ env, attributeBase o name env (eval o env) = eval o env) (hline : (apos.endLine == pos.line) = true)
    (hns : es.all notStar = true) (hlen : es.length < 30) (hK : FnOk B g fd body) (hg : SemGM B name (.ref g) pre) (ho : SemE B fc R o od) (hs : SemAs B fc R es ds) (hf : SemOn B R (fun vs => call (.ref g) vs) f) :
    SemE B fc R (.Call (.Attribute o name apos) es [] pos) (Mth pre f od ds) := by
  intro env A st s Q X S d
  refine meth_head (hbase env) hline hns hlen hg ho S d fun ov s₁ st₁ vo S₁ x₁ r₁ q₁ => ?_
  obtain ⟨ob, hK, hfd⟩ := hK.at_
  refine Calls.callWith_function (o := ob) (fd := fd) (evalArgs_ok hs hns S₁ q₁ (fun vs s' h => ?_) fun e s' h => h.of x₁)
  obtain ⟨avs, st₂, S₂, x₂, r₂, q₂⟩ := h
  have h' : PVs B fc env A R st s (fun vs st => f vs st.σ (fun r σ => Q r ⟨st.m, σ⟩) (fun x σ => X x ⟨st.m, σ⟩)) ([ov] ++ vs) s' := ⟨vo :: avs, st₂, S₂, x₁.trans x₂, ⟨ov, vs, rfl, RelV.ext x₂ _ r₁, r₂⟩, q₂⟩
  exact ⟨⟨S₂.rh.inK _ _ hK, hfd⟩, call_ok hf h'⟩
end
end Mine
-- MjJ
namespace Mine

noncomputable def idx (xs : List AV) (i : Int) : Option AV := if 0 ≤ i then xs[i.toNat]? else if 0 ≤ i + xs.length then xs[(i + xs.length).toNat]? else Option.none
noncomputable def getK (es : List (Int × AV)) (k : Int) : Option AV := (es.find? fun p => p.1 = k).map (·.2)
noncomputable def putK : List (Int × AV) → Int → AV → List (Int × AV)
  | [], k, v => [(k, v)]
  | (a, b) :: es, k, v => if a = k then (a, v) :: es else (a, b) :: putK es k v

section
variable {B : Bs} {fc : FC} {R R' : Rm} {env : Env} {A : Around}

theorem RelVs.idx {σ : Sto} {h : Heap} {xs : List AV} {vs : List Value} {i : Int} {x : AV} (r : RelVs σ h xs vs) (e : idx xs i = some x) :
    ∃ v, RelV σ h x v ∧ ((0 ≤ i ∧ vs[i.toNat]? = some v ∧ i < xs.length) ∨ (i < 0 ∧ 0 ≤ i + vs.length ∧ vs[(i + vs.length).toNat]? = some v)) := by
  unfold Mine.idx at e
  split at e
  · rename_i h0
    obtain ⟨v, h1, h2⟩ := r.get e
    exact ⟨v, h2, .inl ⟨h0, h1, by have := (List.getElem?_eq_some_iff.mp e).1; omega⟩⟩
  · rename_i h0
    split at e
    · rename_i h1
      obtain ⟨v, h2, h3⟩ := r.get e
      refine ⟨v, h3, .inr ⟨by omega, ?_, ?_⟩⟩
      · rw [r.length]; exact h1
      · rw [r.length]; exact h2
    · cases e

theorem PairE.getK {σ : Sto} {h : Heap} : ∀ {es : List (Int × AV)} {kvs : List (Int × Value)} {k : Int} {x : AV}, PairE σ h es kvs → getK es k = some x → ∃ v, valueAt kvs k = some v ∧ RelV σ h x v
  | [], _, k, x, _, e => by simp [Mine.getK] at e
  | (a, b) :: es, _, k, x, ⟨v, kvs, rfl, h1, h2⟩, e => by
    unfold Mine.getK at e
    unfold valueAt
    rw [List.find?_cons] at e ⊢
    by_cases q : a = k
    · simp only [q, decide_true] at e ⊢
      cases e
      exact ⟨v, rfl, h1⟩
    · simp only [q, decide_false] at e ⊢
      exact PairE.getK h2 e
theorem PairE.getK_none {σ : Sto} {h : Heap} : ∀ {es : List (Int × AV)} {kvs : List (Int × Value)} {k : Int}, PairE σ h es kvs → Mine.getK es k = Option.none → valueAt kvs k = Option.none
  | [], _, k, h, e => by rw [show _ = [] from h]; rfl
  | (a, b) :: es, _, k, ⟨v, kvs, rfl, h1, h2⟩, e => by
    unfold Mine.getK at e
    unfold valueAt
    rw [List.find?_cons] at e ⊢
    by_cases q : a = k
    · simp only [q, decide_true] at e
      cases e
    · simp only [q, decide_false] at e ⊢
      exact PairE.getK_none h2 e

theorem seqIdx_pos {k : Int} {n : Nat} (h0 : 0 ≤ k) (h1 : k < n) : seqIndex? k n = some k.toNat := by
  unfold seqIndex?
  simp only [show ¬ k < 0 from by omega, if_false]
  rw [if_pos (by simp only [Bool.and_eq_true, decide_eq_true_eq]; omega)]
theorem seqIdx_neg {k : Int} {n : Nat} (h0 : k < 0) (h1 : 0 ≤ k + n) : seqIndex? k n = some (k + n).toNat := by
  unfold seqIndex?
  simp only [h0, if_true]
  rw [if_pos (by simp only [Bool.and_eq_true, decide_eq_true_eq]; omega)]

noncomputable def oItem : AV → AV → OD := fun a b σ Q _ => match a, b with
  | .ptr p, .int i => (∃ xs x, (σ p = some (.list xs) ∧ xs.length < 1000 ∧ idx xs i = some x) ∧ Q x σ) ∨ (∃ es ep x, (σ p = some (.dict es ep) ∧ getK es i = some x) ∧ Q x σ)
  | .tup xs, .int i => ∃ x, (xs.length < 1000 ∧ idx xs i = some x) ∧ Q x σ
  | _, _ => False

theorem PO.val {σ : Sto} {s : Shared} {Q : AV → Sto → Prop} {x : AV} {v : Value} (rh : RH B σ s) (r : RelV σ s.heap x v) (h : Q x σ) : PO B σ s Q v s := ⟨x, σ, rh, Ext.refl _ _, r, h⟩
theorem PO.valT {σ : Sto} {s : Shared} {Q : AV → Sto → Prop} {x : AV} {v : Value} {t : Nat} (rh : RH B σ s) (r : RelV σ s.heap x v) (h : Q x σ) : PO B σ s Q v { s with toks := t } := ⟨x, σ, rh.toks _, Ext.toks _ _ _, r, h⟩

theorem semItem {value slice : Expr} (hs : ∀ o i, subscripted slice false o i = operate [o, i] (getItem o i)) : SemO2 B R (subscriptTail value slice) oItem := by
  intro A σ s a v b u Q X ao rh ra rb h
  unfold oItem at h
  split at h
  · rename_i p i
    cases ra
    obtain ⟨t, rfl⟩ := rb
    rcases h with ⟨xs, x, ⟨e, hl, hi⟩, hq⟩ | ⟨es, ep, x, ⟨e, hi⟩, hq⟩
    · obtain ⟨vs, n, e', r⟩ := rh.sto _ _ e
      obtain ⟨v, rv, ⟨h0, h1, h2⟩ | ⟨h0, h1, h2⟩⟩ := r.idx hi
      · refine tail_any (T := "list") ⟨_, e', rfl⟩ slot_list_getitem.lookup (wpAny_getItem_list ⟨_, e', rfl, n, rfl⟩ h0 (by omega) (by simpa using h1) (PO.val rh rv hq)) (hs _ _)
      · have hlen := r.length
        refine tail_any (T := "list") ⟨_, e', rfl⟩ slot_list_getitem.lookup (wpAny_getItem_list_neg ⟨_, e', rfl, n, rfl⟩ h0 (by simp; omega) (by omega) (by simpa using h2) (PO.val rh rv hq)) (hs _ _)
    · obtain ⟨kvs, hm, pr⟩ := rh.sto _ _ e
      obtain ⟨v, hv, rv⟩ := pr.getK hi
      exact tail_any (T := "dict") hm.dictOf.mapOf.typeIs slot_dict_getitem.lookup (wpAny_getItem_of (intKind_is _ _ _ _) hm.dictOf.mapOf hv (PO.valT rh rv hq)) (hs _ _)
  · rename_i xs i
    obtain ⟨p, vs, rfl, e', hn, r⟩ := ra
    obtain ⟨t, rfl⟩ := rb
    obtain ⟨x, ⟨hl, hi⟩, hq⟩ := h
    have hlen := r.length
    obtain ⟨v, rv, ⟨h0, h1, h2⟩ | ⟨h0, h1, h2⟩⟩ := r.idx hi
    · refine tail_any (T := "tuple") ⟨_, e', rfl⟩ slot_tuple_getitem.lookup (getItem_tuple (j := i.toNat) ⟨_, e', rfl, 0, rfl⟩ (by omega) (by omega) ?_ (by simpa using h1) (PO.val rh rv hq)) (hs _ _)
      exact seqIdx_pos h0 (by simp; omega)
    · refine tail_any (T := "tuple") ⟨_, e', rfl⟩ slot_tuple_getitem.lookup (getItem_tuple (j := (i + vs.length).toNat) ⟨_, e', rfl, 0, rfl⟩ (by omega) (by omega) ?_ (by simpa using h2) (PO.val rh rv hq)) (hs _ _)
      have := seqIdx_neg (n := vs.length) h0 h1
      simpa using this
  · exact h.elim

noncomputable def oSetItem : AV → AV → AV → Sto → (Sto → Prop) → Prop := fun a b c σ Q => match a, b with
  | .ptr p, .int i => (∃ xs, (σ p = some (.list xs) ∧ xs.length < 1000 ∧ 0 ≤ i ∧ i < xs.length) ∧ Q (upd σ p (.list (xs.set i.toNat c)))) ∨
      (∃ es ep, (σ p = some (.dict es ep) ∧ es.length < 1000) ∧ ∀ ep', Q (upd σ p (.dict (putK es i c) ep')))
  | _, _ => False

theorem RelVs.set {σ : Sto} {h : Heap} : ∀ {xs : List AV} {vs : List Value} {i : Nat} {x : AV} {v : Value}, RelVs σ h xs vs → RelV σ h x v → RelVs σ h (xs.set i x) (vs.set i v)
  | [], _, i, x, v, h, _ => by rw [show _ = [] from h]; exact rfl
  | y :: ys, _, 0, x, v, ⟨w, ws, rfl, h1, h2⟩, hr => ⟨v, ws, rfl, hr, h2⟩
  | y :: ys, _, i + 1, x, v, ⟨w, ws, rfl, h1, h2⟩, hr => ⟨w, _, rfl, h1, RelVs.set h2 hr⟩
theorem RelVs.append {σ : Sto} {h : Heap} : ∀ {xs ys : List AV} {vs ws : List Value}, RelVs σ h xs vs → RelVs σ h ys ws → RelVs σ h (xs ++ ys) (vs ++ ws)
  | [], ys, _, ws, h, h' => by rw [show _ = [] from h]; exact h'
  | x :: xs, ys, _, ws, ⟨v, vs, rfl, h1, h2⟩, h' => ⟨v, vs ++ ws, rfl, h1, RelVs.append h2 h'⟩
theorem PairE.put {σ : Sto} {h : Heap} {k : Int} {x : AV} {v : Value} (hr : RelV σ h x v) : ∀ {es : List (Int × AV)} {kvs : List (Int × Value)}, PairE σ h es kvs → (kvs.map (·.1)).Nodup → PairE σ h (putK es k x) (stored kvs k v)
  | [], _, h, _ => by rw [show _ = [] from h]; exact ⟨v, [], rfl, hr, rfl⟩
  | (a, b) :: es, _, ⟨w, kvs, rfl, h1, h2⟩, nd => by
    unfold putK stored
    simp only [List.any_cons, List.map_cons]
    simp only [List.map_cons, List.nodup_cons] at nd
    by_cases q : a = k
    · subst q
      have hk : kvs.map (fun kv => if kv.1 = a then (kv.1, v) else kv) = kvs := by
        conv => rhs; rw [← List.map_id kvs]
        refine List.map_congr_left fun p hp => ?_
        rw [if_neg fun z => nd.1 (List.mem_map.mpr ⟨p, hp, z⟩)]; rfl
      simp only [decide_true, Bool.true_or, if_true, hk]
      exact ⟨v, kvs, rfl, hr, h2⟩
    · have ih := PairE.put (k := k) hr h2 nd.2
      unfold stored at ih
      simp only [q, decide_false, Bool.false_or, if_false]
      by_cases q2 : kvs.any (fun kv => decide (kv.1 = k)) = true
      · simp only [q2, if_true] at ih ⊢
        exact ⟨w, _, rfl, h1, ih⟩
      · simp only [q2, Bool.false_eq_true, if_false] at ih ⊢
        exact ⟨w, _, rfl, h1, ih⟩

theorem list_setitem_at (l : Addr) (items : Array Value) (n : Nat) (k : Int) (u : Tok) (y : Value) (h0 : 0 ≤ k) (hfit : k < 2 ^ 63) (hk : k < items.size) (hz : items.size ≤ sizeLine) :
    Meets (Builtin.«list.__setitem__» ⟨[.ref l, .int k u, y], []⟩)
      (fun _ R s => s.heap.get? l = some { cls := .type "list", dict := none, data := .seq items n, slots := #[] } ∧ R (.ok (.ret .none)) { s with heap := s.heap.update l (Obj.mapSeq fun xs => xs.setIfInBounds k.toNat y) }) :=
  .of_wp fun prog w A R s h => by
    obtain ⟨hl, h⟩ := h
    show wpAny _ _ (Builtin.List.listSubscript? (.int k u) >>= _) _ _ s
    refine wpAny_bind (wpAny_listSubscript_int (fitsIndex_of h0 hfit) ?_)
    clear hfit
    obtain ⟨j, rfl⟩ := Int.eq_ofNat_of_zero_le h0
    have hj : j < items.size := by omega
    have hx' : items[j]? = some items[j] := Array.getElem?_eq_getElem hj
    show wpAny _ _ ((seqItemAt l j >>= fun r => pure (r.map (j, ·))) >>= _) _ _ s
    refine wpAny_bind (wpAny_bind (wpAny_seqItemAt hl rfl (wpAny_pure ?_)))
    rw [hx']
    show wpAny _ _ (setSeqItemAt l j y >>= _) _ _ s
    refine wpAny_bind (wpAny_setSeqItemAt hl rfl ?_)
    exact wpAny_pure ⟨_, rfl, h⟩

theorem list_turn {σ : Sto} {s : Shared} {p : Addr} {xs ys : List AV} {vs : List Value} {n : Nat} {f : Array Value → Array Value} {ws : List Value} (rh : RH B σ s) (e : σ p = some (.list xs)) (e' : s.heap.get? p = some (listO vs n))
    (hf : f vs.toArray = ws.toArray) (hw : RelVs σ s.heap ys ws) {t : Nat} :
    RH B (upd σ p (.list ys)) { s with heap := s.heap.update p (Obj.mapSeq f), toks := t } ∧ Ext NoW σ s (upd σ p (.list ys)) { s with heap := s.heap.update p (Obj.mapSeq f), toks := t } := by
  have sb := Heap.SameBut.update s.heap p (Obj.mapSeq f)
  have x := ext_upd (o' := .list ys) (t := t) e sb
  refine ⟨rh_upd rh e sb ?_, x⟩
  have q : Obj.mapSeq f (listO vs n) = listO ws (if ws.toArray.size == vs.toArray.size then n else n + 1) := by
    show (⟨_, _, .seq (f vs.toArray) _, _⟩ : Obj) = _
    rw [hf]; rfl
  exact ⟨ws, _, (Heap.get?_update_self _ e' (by rw [q]; rfl)).trans (by rw [q]), RelVs.ext x _ hw⟩

theorem semSetItem : SemU3 B R setItem oSetItem := by
  intro A σ s a v b u c w Q E ao rh ra rb rc h
  unfold oSetItem at h
  split at h
  · rename_i p i
    cases ra
    obtain ⟨t, rfl⟩ := rb
    rcases h with ⟨xs, ⟨e, hl, h0, h1⟩, hq⟩ | ⟨es, ep, ⟨e, hl⟩, hq⟩
    · obtain ⟨vs, n, e', r⟩ := rh.sto _ _ e
      have hlen := r.length
      unfold setItem
      refine wpAny_holding ?_
      refine wpAny_bind (wpAny_sequenceKey (T := "list") ⟨_, e', rfl⟩ (by decide) ?_)
      refine wpAny_bind (wpAny_callSpecial?_slot (name := Str.ofString "__setitem__") (T := "list") ⟨_, e', rfl⟩ slot_list_setitem ?_)
      refine call_meets slot_list_setitem ⟨_, e', rfl⟩ entry_list_setitem (args_list_setitem _ _ _) (list_setitem_at p vs.toArray n i t w h0 (by omega) (by simp; omega) (by rw [sizeLine_eq]; simp; omega)) ⟨e', ?_⟩
      obtain ⟨rh', x'⟩ := list_turn (ys := xs.set i.toNat c) (ws := vs.set i.toNat w) (t := s.toks) rh e e' (f := fun xs => xs.setIfInBounds i.toNat w) (by simp) (r.set rc)
      exact wpAny_pure ⟨_, rh', x', hq⟩
    · obtain ⟨kvs, hm, pr⟩ := rh.sto _ _ e
      refine wpAny_setItem_pairs (intKind_is _ _ _ _) hm.dictOf (fun h' hm' sb => ?_) (by rw [pr.length, sizeLine_eq]; omega)
      obtain ⟨ep', hm'⟩ := hm'.dictAt
      have x := ext_upd (o' := .dict (putK es i c) ep') (t := s.toks + 1) e sb
      exact ⟨_, rh_upd (o' := .dict (putK es i c) ep') rh e sb ⟨_, hm', PairE.ext x (PairE.put rc pr hm.nodup)⟩, x, hq ep'⟩
  · exact h.elim

noncomputable def TItem (f : AV → AV → AV → Sto → (Sto → Prop) → Prop) (o i : ED) : AV → AS → (AS → Prop) → QX → Prop :=
  fun v st Q X => o st (fun vo st => i st (fun vi st => f vo vi v st.σ (fun σ => Q ⟨st.m, σ⟩)) X) X
theorem SemG_item {o i : Expr} {pos : Pos} {od id : ED} {f : AV → AV → AV → Sto → (Sto → Prop) → Prop} (hf : SemU3 B R setItem f) (ho : SemE B fc R o od) (hi : SemE B fc R i id) : SemG B fc R (.Subscript o i pos) (TItem f od id) := by
  intro env A st s av v Q X S r d
  rw [assign_Subscript]
  refine wpAny_bind (wpAny_holding (wpAny_mono (ho env A st s _ X S d) ?_ fun _ _ e => e))
  refine fun v₁ s₁ => PV.el fun av₁ st₁ S₁ x₁ r₁ q₁ => ?_
  refine wpAny_bind (wpAny_holding (wpAny_mono (hi env A st₁ s₁ _ X S₁ q₁) ?_ fun _ _ e => e.of x₁))
  refine fun v₂ s₂ => PV.el fun av₂ st₂ S₂ x₂ r₂ q₂ => ?_
  refine wpAny_bind (wpAny_standAt (wpAny_bind (wpAny_holding ?_)))
  refine wpAny_mono (hf A st₂.σ s₂ _ _ _ _ _ _ _ _ S₂.ao S₂.rh (RelV.ext x₂ _ r₁) r₂ (RelV.ext (x₁.trans x₂) _ r) q₂) ?_ fun _ _ e => e
  rintro _ s₃ ⟨σ₃, rh₃, x₃, q₃⟩
  have fin : PU B fc env A R st s Q () s₃ := ⟨⟨st₂.m, σ₃⟩, S₂.op rh₃ x₃, (x₁.trans x₂).trans (S₂.extW x₃), q₃⟩
  exact fun Γ p hΓ => by rw [Sem.wp_release]; exact fin

noncomputable def isList (a : AV) (σ : Sto) : Prop := Ex2 fun p xs => An2 (a = .ptr p) (σ p = some (.list xs))
theorem gm_list {name : Str} {id : String} (slot : Slot "list" name id) (hty : typeOf (.builtin id) = pure (.type "method_descriptor")) : SemGM B name (.builtin id) isList := by
  rintro A σ s av v pl Q E rh r ⟨p, xs, rfl, e⟩ h
  cases r
  obtain ⟨vs, n, e', _⟩ := rh.sto _ _ e
  exact getMethod_list_of slot hty ⟨_, e', rfl, n, rfl⟩ ⟨_, e', rfl⟩ h

noncomputable def oAppend : List AV → OD := fun as σ Q _ => match as with
  | [.ptr p, x] => ∃ xs, (σ p = some (.list xs) ∧ xs.length < 1000) ∧ Q .none (upd σ p (.list (xs ++ [x])))
  | _ => False
theorem semAppend : SemOn B R (fun vs => call (.builtin "list.append") vs) oAppend := by
  intro A σ s as vs Q X ao rh r h
  unfold oAppend at h
  split at h
  · rename_i p x
    obtain ⟨v1, w1, rfl, h1, v2, w2, rfl, h2, h3⟩ := r
    cases h1; cases h3
    obtain ⟨xs, ⟨e, hl⟩, hq⟩ := h
    obtain ⟨vs, n, e', r⟩ := rh.sto _ _ e
    have hlen := r.length
    refine call_meets (T := "list") F.slot_list_append ⟨_, e', rfl⟩ F.entry_list_append (F.args_list_append_2 _ _) (AutoListH.list_append_list_val_0 p vs.toArray n v2 (by rw [sizeLine_eq]; simp; omega)) ⟨e', ?_⟩
    obtain ⟨rh', x'⟩ := list_turn (ys := xs ++ [x]) (ws := vs ++ [v2]) (t := s.toks) rh e e' (f := fun xs => xs.push v2) (by simp) (r.append ⟨v2, [], rfl, h2, rfl⟩)
    exact ⟨.none, _, rh', x', rfl, hq⟩
  · exact h.elim

noncomputable def oPop : List AV → OD := fun as σ Q _ => match as with
  | [.ptr p] => ∃ xs x, (σ p = some (.list (xs ++ [x])) ∧ xs.length < 1000) ∧ Q x (upd σ p (.list xs))
  | _ => False
theorem RelVs.snoc {σ : Sto} {h : Heap} {xs : List AV} {x : AV} {vs : List Value} (r : RelVs σ h (xs ++ [x]) vs) : ∃ ws w, vs = ws ++ [w] ∧ RelVs σ h xs ws ∧ RelV σ h x w := by
  induction xs generalizing vs with
  | nil => obtain ⟨v, vs', rfl, h1, h2⟩ := r; cases h2; exact ⟨[], v, rfl, rfl, h1⟩
  | cons y ys ih =>
    obtain ⟨v, vs', rfl, h1, h2⟩ := r
    obtain ⟨ws, w, rfl, h3, h4⟩ := ih h2
    exact ⟨v :: ws, w, rfl, ⟨v, ws, rfl, h1, h3⟩, h4⟩
theorem semPop : SemOn B R (fun vs => call (.builtin "list.pop") vs) oPop := by
  intro A σ s as vs Q X ao rh r h
  unfold oPop at h
  split at h
  · rename_i p
    obtain ⟨v1, w1, rfl, h1, h3⟩ := r
    cases h1; cases h3
    obtain ⟨xs, x, ⟨e, hl⟩, hq⟩ := h
    obtain ⟨vs, n, e', r⟩ := rh.sto _ _ e
    obtain ⟨ws, w, rfl, r1, r2⟩ := r.snoc
    have hlen := r1.length
    refine call_meets (T := "list") F.slot_list_pop ⟨_, e', rfl⟩ F.entry_list_pop (F.args_list_pop_1 _) (MeetsSeq.list_pop_last p (ws ++ [w]).toArray n w (by simp) (by rw [sizeLine_eq]; simp; omega)) ⟨e', ?_⟩
    obtain ⟨rh', x'⟩ := list_turn (ys := xs) (ws := ws) (t := s.toks) rh e e' (f := fun xs => xs.eraseIdxIfInBounds ((ws ++ [w]).toArray.size - 1)) (by simp [List.eraseIdx_append_of_length_le]) r1
    exact ⟨x, _, rh', x', RelV.ext x' _ r2, hq⟩
  · exact h.elim

noncomputable def oLen : List AV → OD := fun as σ Q _ => match as with
  | [.ptr p] => (∃ xs, (σ p = some (.list xs) ∧ xs.length < 1000) ∧ Q (.int xs.length) σ)
  | [.tup xs] => xs.length < 1000 ∧ Q (.int xs.length) σ
  | _ => False
theorem semLen : SemOn B R (fun vs => call (.builtin "len") vs) oLen := by
  intro A σ s as vs Q X ao rh r h
  unfold oLen at h
  split at h
  · rename_i p
    obtain ⟨v1, w1, rfl, h1, h3⟩ := r
    cases h1; cases h3
    obtain ⟨xs, ⟨e, hl⟩, hq⟩ := h
    obtain ⟨vs, n, e', r⟩ := rh.sto _ _ e
    have hlen := r.length
    refine Calls.call_len_list ⟨_, e', rfl, n, rfl⟩ (by simp; omega) (PO.valT (x := .int vs.toArray.size) rh ⟨_, rfl⟩ ?_)
    simpa [hlen] using hq
  · rename_i xs
    obtain ⟨v1, w1, rfl, h1, h3⟩ := r
    obtain ⟨p, vs, rfl, e', hn, r⟩ := h1
    cases h3
    have hlen := r.length
    refine len_tuple ⟨_, e', rfl, 0, rfl⟩ (by simp; omega) (PO.valT (x := .int vs.toArray.size) rh ⟨_, rfl⟩ ?_)
    simpa [hlen] using h.2
  · exact h.elim
end
end Mine
-- MjK
namespace Mine

noncomputable abbrev PP := Int × Int
noncomputable def PL (a b : PP) : Prop := a.1 < b.1 ∨ a.1 = b.1 ∧ a.2 < b.2
noncomputable def gp (xs : List PP) (i : Nat) : PP := xs.getD i (0, 0)
noncomputable def Hp (xs : List PP) : Prop := ∀ i, 0 < i → i < xs.length → ¬ PL (gp xs i) (gp xs ((i - 1) / 2))
noncomputable def HpX (xs : List PP) (k : Nat) : Prop := (∀ i, 0 < i → i < xs.length → i ≠ k → ¬ PL (gp xs i) (gp xs ((i - 1) / 2))) ∧ (0 < k → ∀ c, 0 < c → c < xs.length → (c - 1) / 2 = k → ¬ PL (gp xs c) (gp xs ((k - 1) / 2)))
noncomputable def UpI (xs : List PP) (k : Nat) : Prop := (∀ i, 0 < i → i < xs.length → i ≠ k → (i - 1) / 2 ≠ k → ¬ PL (gp xs i) (gp xs ((i - 1) / 2))) ∧ (0 < k → ∀ c, 0 < c → c < xs.length → (c - 1) / 2 = k → ¬ PL (gp xs c) (gp xs ((k - 1) / 2)))

theorem gp_set (xs : List PP) (k i : Nat) (v : PP) (hk : k < xs.length) : gp (xs.set k v) i = if i = k then v else gp xs i := by
  unfold gp
  simp only [List.getD_eq_getElem?_getD, List.getElem?_set]
  by_cases h : k = i
  · subst h; simp [hk]
  · simp [h, Ne.symm h]
theorem gp_get {xs : List PP} {i : Nat} (h : i < xs.length) : xs[i]? = some (gp xs i) := by
  unfold gp; simp [h]
theorem gp_eq {xs : List PP} {i : Nat} (h : i < xs.length) : gp xs i = xs[i] := by unfold gp; simp [h]
theorem swap_perm (xs : List PP) (i j : Nat) (v : PP) (hi : i < xs.length) (hj : j < xs.length) (hij : i ≠ j) : ((xs.set i (gp xs j)).set j v).Perm (xs.set i v) := by
  have h := List.set_set_perm (as := xs.set i v) (i := i) (j := j) (by simpa using hi) (by simpa using hj)
  simpa [List.set_set, gp_eq hj, List.getElem_set, hij, Ne.symm hij] using h

theorem HpX.zero {xs : List PP} (h : HpX xs 0) : Hp xs := fun i h0 h1 => h.1 i h0 h1 (by omega)
theorem HpX.done {xs : List PP} {k : Nat} (h : HpX xs k) (hk : ¬ PL (gp xs k) (gp xs ((k - 1) / 2))) : Hp xs := fun i h0 h1 => by
  by_cases q : i = k
  · subst q; exact hk
  · exact h.1 i h0 h1 q
theorem par_lt {i : Nat} (h : 0 < i) : (i - 1) / 2 < i := by omega
theorem par_ne {i : Nat} (h : 0 < i) : (i - 1) / 2 ≠ i := Nat.ne_of_lt (par_lt h)
theorem pl_irr (a : PP) : ¬ PL a a := by unfold PL; omega
theorem pl_asy {a b : PP} (h : PL a b) : ¬ PL b a := by unfold PL at *; omega
theorem pl_tr {a b c : PP} (h : PL a b) (h' : PL b c) : PL a c := by unfold PL at *; omega
theorem pl_tot {a b : PP} (h : ¬ PL a b) (h' : a ≠ b) : PL b a := by
  have : ¬ (a.1 = b.1 ∧ a.2 = b.2) := fun z => h' (Prod.ext z.1 z.2)
  unfold PL at *; omega
theorem pl_le {a b c : PP} (h : ¬ PL a b) (h' : ¬ PL b c) : ¬ PL a c := fun z => by
  by_cases e : a = b
  · exact h' (e ▸ z)
  · exact h' (pl_tr (pl_tot h e) z)
theorem HpX.step {xs : List PP} {k : Nat} {N : PP} (hk : k < xs.length) (h0 : 0 < k) (h : HpX (xs.set k N) k) (hl : PL N (gp xs ((k - 1) / 2))) : HpX ((xs.set k (gp xs ((k - 1) / 2))).set ((k - 1) / 2) N) ((k - 1) / 2) := by
  have lt := par_lt h0
  have hpk := par_ne h0
  generalize hq : (k - 1) / 2 = q at *
  have L1 : ∀ i, gp (xs.set k N) i = if i = k then N else gp xs i := fun i => gp_set xs k i N hk
  have L2 : ∀ i, gp ((xs.set k (gp xs q)).set q N) i = if i = q then N else if i = k then gp xs q else gp xs i := fun i =>
    (gp_set _ _ _ _ (Nat.lt_of_lt_of_eq (Nat.lt_trans lt hk) List.length_set.symm)).trans (by rw [gp_set _ _ _ _ hk])
  have hlen : ((xs.set k (gp xs q)).set q N).length = (xs.set k N).length := List.length_set.trans (List.length_set.trans List.length_set.symm)
  generalize (xs.set k (gp xs q)).set q N = ys at *
  have hlx : (xs.set k N).length = xs.length := List.length_set
  obtain ⟨a, b⟩ := h
  generalize xs.set k N = zs at *
  refine ⟨fun i i0 i1 i2 => ?_, fun p0 c c0 c1 c2 => ?_⟩
  · rw [hlen] at i1
    rw [L2, L2, if_neg i2]
    by_cases q' : i = k
    · rw [q', if_pos rfl, hq, if_pos rfl]
      exact pl_asy hl
    · rw [if_neg q']
      have ai := a i i0 i1 q'
      rw [L1, L1, if_neg q'] at ai
      by_cases q1 : (i - 1) / 2 = k
      · have bb := b h0 i i0 i1 q1
        rw [L1, L1, if_neg q', hq, if_neg hpk] at bb
        rw [q1, if_neg (Ne.symm hpk), if_pos rfl]
        exact bb
      · rw [if_neg q1] at ai
        by_cases q2 : (i - 1) / 2 = q
        · rw [q2] at ai
          rw [q2, if_pos rfl]
          exact fun z => ai (pl_tr z hl)
        · rw [if_neg q2, if_neg q1]
          exact ai
  · rw [hlen] at c1
    have lp := par_lt p0
    have apar := a q p0 (Nat.lt_trans lt (hlx ▸ hk)) hpk
    rw [L1, L1, if_neg hpk, if_neg (Nat.ne_of_lt (Nat.lt_trans lp lt))] at apar
    rw [L2, L2, if_neg (Nat.ne_of_lt lp), if_neg (Nat.ne_of_lt (Nat.lt_trans lp lt)), if_neg (fun z : c = q => Nat.ne_of_lt lp (z ▸ c2))]
    by_cases q' : c = k
    · rw [if_pos q']; exact apar
    · rw [if_neg q']
      have ac := a c c0 c1 q'
      rw [L1, L1, if_neg q', c2, if_neg hpk] at ac
      exact pl_le ac apar
theorem kid {o k : Nat} (h0 : 0 < o) (h : (o - 1) / 2 = k) : o = 2 * k + 1 ∨ o = 2 * k + 2 := by omega
theorem UpI.step {xs : List PP} {k c : Nat} (hc : c < xs.length) (hck : c = 2 * k + 1 ∨ c = 2 * k + 2) (h : UpI xs k) (ho : ∀ o, o < xs.length → o = 2 * k + 1 ∨ o = 2 * k + 2 → ¬ PL (gp xs o) (gp xs c)) : UpI (xs.set k (gp xs c)) c := by
  have c0 : 0 < c ∧ k < c ∧ (c - 1) / 2 = k := by omega
  obtain ⟨c0, ck, cp⟩ := c0
  have L1 : ∀ i, gp (xs.set k (gp xs c)) i = if i = k then gp xs c else gp xs i := fun i => gp_set xs k i _ (Nat.lt_trans ck hc)
  have hlen : (xs.set k (gp xs c)).length = xs.length := List.length_set
  generalize xs.set k (gp xs c) = ys at *
  obtain ⟨a, b⟩ := h
  refine ⟨fun i i0 i1 i2 i3 => ?_, fun p0 d d0 d1 d2 => ?_⟩
  · rw [hlen] at i1
    rw [L1, L1]
    by_cases q : i = k
    · subst q
      rw [if_pos rfl, if_neg (par_ne i0)]
      exact b i0 c c0 hc cp
    · rw [if_neg q]
      by_cases q1 : (i - 1) / 2 = k
      · rw [if_pos q1]
        exact ho i i1 (kid i0 q1)
      · rw [if_neg q1]
        exact a i i0 i1 q q1
  · rw [hlen] at d1
    have dc : c < d := d2 ▸ par_lt d0
    rw [L1, L1, if_neg (Nat.ne_of_gt (Nat.lt_trans ck dc)), cp, if_pos rfl]
    have := a d d0 d1 (Nat.ne_of_gt (Nat.lt_trans ck dc)) (d2 ▸ Nat.ne_of_gt ck)
    rwa [d2] at this
theorem UpI.leaf {xs : List PP} {k : Nat} {N : PP} (hk : k < xs.length) (hl : xs.length ≤ 2 * k + 1) (h : UpI xs k) : HpX (xs.set k N) k := by
  have L1 : ∀ i, gp (xs.set k N) i = if i = k then N else gp xs i := fun i => gp_set xs k i N hk
  obtain ⟨a, b⟩ := h
  refine ⟨fun i i0 i1 i2 => ?_, fun p0 d d0 d1 d2 => ?_⟩
  · simp only [List.length_set] at i1
    rw [L1, L1, if_neg i2, if_neg (by omega)]
    exact a i i0 i1 i2 (by omega)
  · simp only [List.length_set] at d1
    omega
theorem Hp.root {xs : List PP} {v : PP} (h : Hp xs) : UpI (xs.set 0 v) 0 := by
  refine ⟨fun i i0 i1 i2 i3 => ?_, fun p0 => absurd p0 (by omega)⟩
  simp only [List.length_set] at i1
  rw [gp_set _ _ _ _ (by omega), gp_set _ _ _ _ (by omega), if_neg i2, if_neg i3]
  exact h i i0 i1
theorem gp_append_left {xs ys : List PP} {i : Nat} (h : i < xs.length) : gp (xs ++ ys) i = gp xs i := by
  unfold gp; simp [List.getElem?_append_left h]
theorem Hp.push {xs : List PP} {v : PP} (h : Hp xs) : HpX (xs ++ [v]) xs.length := by
  refine ⟨fun i i0 i1 i2 => ?_, fun p0 d d0 d1 d2 => ?_⟩
  · simp only [List.length_append, List.length_cons, List.length_nil] at i1
    rw [gp_append_left (by omega), gp_append_left (by omega)]
    exact h i i0 (by omega)
  · simp only [List.length_append, List.length_cons, List.length_nil] at d1
    omega
theorem Hp.init {xs : List PP} {v : PP} (h : Hp (xs ++ [v])) : Hp xs := fun i i0 i1 => by
  have := h i i0 (by simp; omega)
  rwa [gp_append_left (by omega), gp_append_left (by omega)] at this
theorem Hp.min {xs : List PP} (h : Hp xs) : ∀ i, i < xs.length → ¬ PL (gp xs i) (gp xs 0) := by
  intro i
  induction i using Nat.strongRecOn with
  | _ i ih =>
    intro hi
    by_cases q : i = 0
    · subst q; exact pl_irr _
    · have h0 := Nat.pos_of_ne_zero q
      exact pl_le (h i h0 hi) (ih _ (par_lt h0) (Nat.lt_trans (par_lt h0) hi))
theorem Hp.minM {xs : List PP} (h : Hp xs) {x : PP} (hx : x ∈ xs) : ¬ PL x (gp xs 0) := by
  obtain ⟨i, hi, rfl⟩ := List.mem_iff_getElem.mp hx
  rw [← gp_eq hi]; exact h.min i hi
theorem Hp.nil : Hp [] := fun i h0 h1 => absurd h1 (by simp)

noncomputable def prv (p : PP) : AV := .tup [.int p.1, .int p.2]
noncomputable def prs (xs : List PP) : List AV := xs.map prv
theorem prs_length (xs : List PP) : (prs xs).length = xs.length := by simp [prs]
theorem prs_idx {xs : List PP} {i : Int} (h0 : 0 ≤ i) (h : i.toNat < xs.length) : idx (prs xs) i = some (prv (gp xs i.toNat)) := by
  unfold idx; rw [if_pos h0]; simp [prs, gp_get h]
theorem prs_set (xs : List PP) (i : Nat) (p : PP) : (prs xs).set i (prv p) = prs (xs.set i p) := by simp [prs, List.map_set]
theorem prs_append (xs : List PP) (p : PP) : prs xs ++ [prv p] = prs (xs ++ [p]) := by simp [prs]
theorem upd_upd (σ : Sto) (a : Addr) (o o' : AObj) : upd (upd σ a o) a o' = upd σ a o' := by
  funext b; unfold upd; split <;> rfl
theorem upd_same {σ : Sto} {a : Addr} {o : AObj} (h : σ a = some o) : upd σ a o = σ := by
  funext b; unfold upd; split
  · rename_i q; rw [q, h]
  · rfl
end Mine
-- MjL
namespace Mine
section
variable {Q : Out → AS → Prop} {X : QX}
theorem while_rule {c : BD} {a o : SD} (I : Nat → AS → Prop) (n : Nat) (st : AS) (h : I n st)
    (step : ∀ (W : AS → Prop) n st, I n st → (∀ m st', n = m + 1 → I m st' → W st') →
      c st (fun t st => (t = true → a st (fun r st => match r with | .next => W st | .cont => W st | .brk => Q .next st | .ret v => Q (.ret v) st) X) ∧ (t = false → o st Q X)) X) : SWhile c a o st Q X := by
  refine ⟨n + 1, ?_⟩
  induction n generalizing st with
  | zero => exact step (fun _ => False) 0 st h (fun m st' e => nomatch e)
  | succ n ih => exact step (fun st => WhileN c a o (n + 1) st Q X) (n + 1) st h (fun m st' e i => by cases e; exact ih st' i)
theorem for_rule {g : AV → AS → (AS → Prop) → QX → Prop} {a o : SD} {chk : Sto → Prop} (I : List AV → AS → Prop) (xs : List AV) (st : AS) (h : I xs st)
    (step : ∀ (W : AS → Prop) x xs st, I (x :: xs) st → (∀ st', I xs st' → W st') →
      chk st.σ ∧ g x st (fun st => a st (fun r st => match r with | .next => W st | .cont => W st | .brk => Q .next st | .ret v => Q (.ret v) st) X) X)
    (done : ∀ st, I [] st → chk st.σ ∧ o st Q X) : ForN g a o chk xs st Q X := by
  induction xs generalizing st with
  | nil => exact done st h
  | cons x xs ih => exact step (fun st => ForN g a o chk xs st Q X) x xs st h (fun st' i => ih st' i)
end

noncomputable def plD (a b : PP) : Bool := decide (a.1 < b.1 ∨ a.1 = b.1 ∧ a.2 < b.2)
theorem plD_t {a b : PP} : plD a b = true ↔ PL a b := by unfold plD PL; simp
theorem plD_f {a b : PP} : plD a b = false ↔ ¬ PL a b := by unfold plD PL; simp

section
variable {σ : Sto} {Q : AV → Sto → Prop} {X : AX → Sto → Prop} {p : Addr} {i : Int} {U : Sto → Prop}
theorem item_list {xs : List AV} {x : AV} (e : σ p = some (.list xs)) (hl : xs.length < 1000) (hi : idx xs i = some x) (h : Q x σ) : oItem (.ptr p) (.int i) σ Q X := .inl ⟨xs, x, ⟨e, hl, hi⟩, h⟩
theorem item_dict {es : List (Int × AV)} {ep : Nat} {x : AV} (e : σ p = some (.dict es ep)) (hi : getK es i = some x) (h : Q x σ) : oItem (.ptr p) (.int i) σ Q X := .inr ⟨es, ep, x, ⟨e, hi⟩, h⟩
theorem set_list {xs : List AV} {c : AV} (e : σ p = some (.list xs)) (hl : xs.length < 1000) (h0 : 0 ≤ i) (hi : i < xs.length) (h : U (upd σ p (.list (xs.set i.toNat c)))) : oSetItem (.ptr p) (.int i) c σ U := .inl ⟨xs, ⟨e, hl, h0, hi⟩, h⟩
theorem set_dict {es : List (Int × AV)} {ep : Nat} {c : AV} (e : σ p = some (.dict es ep)) (hl : es.length < 1000) (h : ∀ ep', U (upd σ p (.dict (putK es i c) ep'))) : oSetItem (.ptr p) (.int i) c σ U := .inr ⟨es, ep, ⟨e, hl⟩, h⟩
theorem append_list {xs : List AV} {x : AV} (e : σ p = some (.list xs)) (hl : xs.length < 1000) (h : Q .none (upd σ p (.list (xs ++ [x])))) : oAppend [.ptr p, x] σ Q X := ⟨xs, ⟨e, hl⟩, h⟩
theorem len_list {xs : List AV} (e : σ p = some (.list xs)) (hl : xs.length < 1000) (h : Q (.int xs.length) σ) : oLen [.ptr p] σ Q X := ⟨xs, ⟨e, hl⟩, h⟩
theorem shr_ok {x : Int} (h0 : 0 ≤ x) (h : Q (.int (x / 2)) σ) : oShr1 (.int x) (.int 1) σ Q X := ⟨⟨rfl, h0⟩, by rw [Int.fdiv_eq_ediv_of_nonneg _ (by omega)]; exact h⟩
theorem lt_prv {a b : PP} (h : Q (.bool (plD a b)) σ) : oLt (prv a) (prv b) σ Q X := ⟨_, _, _, _, rfl, rfl, h⟩
end
end Mine
-- MjM
namespace Mine

mutual
theorem RelV.chg {σ σ' : Sto} {h : Heap} (x : ∀ b o, σ b = Option.none → h.get? b = some o → ImmO o → σ' b = Option.none) : ∀ (av : AV) {v : Value}, RelV σ h av v → RelV σ' h av v
  | .none, _, h => h
  | .bool _, _, h => h
  | .int _, _, h => h
  | .str _, _, h => h
  | .tup xs, _, ⟨a, vs, e, h1, h2, h3⟩ => ⟨a, vs, e, h1, x _ _ h2 h1 (.inl ⟨_, rfl⟩), RelVs.chg x xs h3⟩
  | .rng _ _ _, _, ⟨p, t, u, w, e, h1, h2⟩ => ⟨p, t, u, w, e, h1, x _ _ h2 h1 (.inr (.inl ⟨_, _, _, _, _, _, rfl⟩))⟩
  | .vw k d, _, ⟨p, e, h1, h2⟩ => ⟨p, e, h1, x _ _ h2 h1 (.inr (.inr (.inl ⟨_, _, rfl⟩)))⟩
  | .wrap I, _, ⟨p, e, h1, h2⟩ => ⟨p, e, h1, x _ _ h2 h1 (.inr (.inr (.inr ⟨_, rfl⟩)))⟩
  | .ptr _, _, h => h
  | .con _, _, h => h
theorem RelVs.chg {σ σ' : Sto} {h : Heap} (x : ∀ b o, σ b = Option.none → h.get? b = some o → ImmO o → σ' b = Option.none) : ∀ (xs : List AV) {vs : List Value}, RelVs σ h xs vs → RelVs σ' h xs vs
  | [], _, h => h
  | a :: xs, _, ⟨v, vs', e, h1, h2⟩ => ⟨v, vs', e, RelV.chg x a h1, RelVs.chg x xs h2⟩
end
theorem RelO.chg {σ σ' : Sto} {h : Heap} (x : ∀ b o, σ b = Option.none → h.get? b = some o → ImmO o → σ' b = Option.none) : ∀ {o : Option AV} {v : Option Value}, RelO σ h o v → RelO σ' h o v
  | some _, some _, h => RelV.chg x _ h
  | some _, Option.none, h => h.elim
  | Option.none, some _, h => h.elim
  | Option.none, Option.none, _ => trivial
theorem AttrE.chg {w : World} {σ σ' : Sto} {h : Heap} (x : ∀ b o, σ b = Option.none → h.get? b = some o → ImmO o → σ' b = Option.none) : ∀ {fs : List (Str × AV)} {es : List DictEntry}, AttrE w σ h fs es → AttrE w σ' h fs es
  | [], _, h => h
  | (_, _) :: _, _, ⟨t, v, es', e, h1, h2⟩ => ⟨t, v, es', e, RelV.chg x _ h1, AttrE.chg x h2⟩
theorem PairE.chg {σ σ' : Sto} {h : Heap} (x : ∀ b o, σ b = Option.none → h.get? b = some o → ImmO o → σ' b = Option.none) : ∀ {fs : List (Int × AV)} {es : List (Int × Value)}, PairE σ h fs es → PairE σ' h fs es
  | [], _, h => h
  | (_, _) :: _, _, ⟨v, es', e, h1, h2⟩ => ⟨v, es', e, RelV.chg x _ h1, PairE.chg x h2⟩
theorem SlotE.chg {σ σ' : Sto} {h : Heap} (x : ∀ b o, σ b = Option.none → h.get? b = some o → ImmO o → σ' b = Option.none) : ∀ {fs : List (Option AV)} {es : List (Option Value)}, SlotE σ h fs es → SlotE σ' h fs es
  | [], _, h => h
  | _ :: _, _, ⟨v, es', e, h1, h2⟩ => ⟨v, es', e, RelO.chg x h1, SlotE.chg x h2⟩
theorem RepO.chg {B : Bs} {σ σ' : Sto} {h : Heap} {a : Addr} {o : AObj} (x : ∀ b o, σ b = Option.none → h.get? b = some o → ImmO o → σ' b = Option.none) (r : RepO B σ h a o) : RepO B σ' h a o := by
  cases o with
  | list xs => obtain ⟨vs, n, h, q⟩ := r; exact ⟨vs, n, h, RelVs.chg x _ q⟩
  | dict es ep => obtain ⟨kvs, h, q⟩ := r; exact ⟨kvs, h, PairE.chg x q⟩
  | inst C dx => exact r
  | attrs fs => obtain ⟨es, n, h, q⟩ := r; exact ⟨es, n, h, AttrE.chg x q⟩
  | slots C dx vs => obtain ⟨sl, h, q⟩ := r; exact ⟨sl, h, SlotE.chg x q⟩
  | set xs => exact r
  | liter l i => exact r

section
variable {B : Bs} {fc : FC} {R R' : Rm} {env : Env} {A : Around}

theorem chg_upd {σ : Sto} {h : Heap} {a : Addr} {ob : Obj} {o : AObj} (e : h.get? a = some ob) (hi : ¬ ImmO ob) : ∀ b o', σ b = Option.none → h.get? b = some o' → ImmO o' → upd σ a o b = Option.none := by
  intro b o' h1 h2 h3
  by_cases q : b = a
  · subst q; rw [e] at h2; cases h2; exact absurd h3 hi
  · rw [upd_ne _ _ q]; exact h1

theorem track {σ : Sto} {s s' : Shared} {a : Addr} {ob : Obj} {o : AObj} (rh : RH B σ s') (x : Ext NoW σ s σ s') (ha : s.heap.objs.size ≤ a) (hσ : σ a = Option.none) (hN : B.h₀.objs.size ≤ a) (e : s'.heap.get? a = some ob) (hi : ¬ ImmO ob)
    (r : RepO B σ s'.heap a o) : RH B (upd σ a o) s' ∧ Ext NoW σ s (upd σ a o) s' := by
  refine ⟨⟨rh.old, rh.gens, rh.os, fun b o' hb => ?_, fun b hb => ?_, rh.size⟩, ⟨x.keep, fun b h1 h2 => ?_, x.size, x.nt⟩⟩
  · by_cases q : b = a
    · subst q; rw [upd_self] at hb; cases hb; exact r.chg (chg_upd e hi)
    · rw [upd_ne _ _ q] at hb; exact (rh.sto b o' hb).chg (chg_upd e hi)
  · by_cases q : b = a
    · subst q; exact hN
    · rw [upd_ne _ _ q] at hb; exact rh.new b hb
  · by_cases q : b = a
    · subst q; exact ha
    · rw [upd_ne _ _ q] at h2; exact absurd h1 h2

theorem listO_imm (vs : List Value) (n : Nat) : ¬ ImmO (listO vs n) := nImm (n := "list") rfl (by decide)

theorem PO.list {σ : Sto} {s s' : Shared} {Q : AV → Sto → Prop} {a : Addr} {vs : List Value} {n : Nat} {xs : List AV} (rh₀ : RH B σ s) (rh : RH B σ s') (x : Ext NoW σ s σ s') (ha : s.heap.objs.size ≤ a) (e : s'.heap.get? a = some (listO vs n))
    (r : RelVs σ s'.heap xs vs) (h : ∀ a, σ a = Option.none → Q (.ptr a) (upd σ a (.list xs))) : PO B σ s Q (.ref a) s' := by
  have hσ := rh₀.freshN ha
  obtain ⟨h1, h2⟩ := track (o := .list xs) rh x ha hσ (Nat.le_trans rh₀.size ha) e (listO_imm _ _) ⟨vs, n, e, r⟩
  exact ⟨.ptr a, _, h1, h2, rfl, h a hσ⟩
theorem PO.listP {σ : Sto} {s : Shared} {Q : AV → Sto → Prop} {vs : List Value} {n t : Nat} {xs : List AV} (rh : RH B σ s) (r : RelVs σ s.heap xs vs) (h : ∀ a, σ a = Option.none → Q (.ptr a) (upd σ a (.list xs))) :
    PO B σ s Q (.ref s.heap.objs.size) { s with heap := s.heap.push (listO vs n), toks := t } := by
  obtain ⟨h1, h2⟩ := mvPush rh (listO vs n) t
  exact PO.list rh h1 h2 (Nat.le_refl _) (Heap.get?_push_size _ rfl) (RelVs.ext h2 _ r) h
theorem PO.tupP {σ : Sto} {s : Shared} {Q : AV → Sto → Prop} {vs : List Value} {t : Nat} {xs : List AV} (rh : RH B σ s) (r : RelVs σ s.heap xs vs) (h : Q (.tup xs) σ) :
    PO B σ s Q (.ref s.heap.objs.size) { s with heap := s.heap.push (tupO vs), toks := t } := by
  obtain ⟨h1, h2⟩ := mvPush rh (tupO vs) t
  exact ⟨.tup xs, σ, h1, h2, ⟨_, vs, rfl, Heap.get?_push_size _ rfl, rh.freshN (Nat.le_refl _), RelVs.ext h2 _ r⟩, h⟩

noncomputable def ETup (ds : List ED) : ED := fun st Q X => Evs ds st (fun vs st => vs.length < 1000 ∧ Q (.tup vs) st) X
noncomputable def EList (ds : List ED) : ED := fun st Q X => Evs ds st (fun vs st => vs.length < 1000 ∧ ∀ a, st.σ a = Option.none → Q (.ptr a) ⟨st.m, upd st.σ a (.list vs)⟩) X
theorem sizeOk {n : Nat} (h : n < 1000) : n ≤ sizeLine := by rw [sizeLine_eq]; omega
theorem SemE_tuple {es : List Expr} {ds : List ED} {k : Nat} {pos : Pos} (hs : SemAs B fc R es ds) : SemE B fc R (.Tuple es k pos) (ETup ds) := by
  intro env A st s Q X S d
  refine wpAny_Tuple (wpAny_mono (hs env A st s _ X pos S d) ?_ fun _ _ e => e)
  refine fun vs s₁ => PVs.el fun avs st₁ S₁ x₁ r₁ qq => ?_
  obtain ⟨hl, q₁⟩ := qq
  refine ⟨sizeOk (by rw [r₁.length]; exact hl), ?_⟩
  exact (PV.op S₁ (PO.tupP (t := s₁.toks) S₁.rh r₁ q₁)).of x₁
theorem SemE_list {es : List Expr} {ds : List ED} {pos : Pos} (hs : SemAs B fc R es ds) : SemE B fc R (.List es pos) (EList ds) := by
  intro env A st s Q X S d
  refine wpAny_List (wpAny_mono (hs env A st s _ X pos S d) ?_ fun _ _ e => e)
  refine fun vs s₁ => PVs.el fun avs st₁ S₁ x₁ r₁ qq => ?_
  obtain ⟨hl, q₁⟩ := qq
  refine ⟨sizeOk (by rw [r₁.length]; exact hl), ?_⟩
  exact (PV.op S₁ (PO.listP (n := 0) (t := s₁.toks) S₁.rh r₁ q₁)).of x₁

noncomputable def TGo : List (AV → AS → (AS → Prop) → QX → Prop) → List AV → AS → (AS → Prop) → QX → Prop
  | [], [] => fun st Q _ => Q st
  | g :: gs, x :: xs => fun st Q X => g x st (fun st => TGo gs xs st Q X) X
  | _, _ => fun _ _ _ => False
noncomputable def TTup (gs : List (AV → AS → (AS → Prop) → QX → Prop)) : AV → AS → (AS → Prop) → QX → Prop := fun v st Q X => match v with
  | .tup xs => xs.length = gs.length ∧ TGo gs xs st Q X
  | _ => False
inductive SemGs (B : Bs) (fc : FC) (R : Rm) : List Expr → List (AV → AS → (AS → Prop) → QX → Prop) → Prop
  | nil : SemGs B fc R [] []
  | cons {e : Expr} {es : List Expr} {g : AV → AS → (AS → Prop) → QX → Prop} {gs : List (AV → AS → (AS → Prop) → QX → Prop)} : notStar e = true → SemG B fc R e g → SemGs B fc R es gs → SemGs B fc R (e :: es) (g :: gs)
theorem assignEach_cons {e : Expr} (h : notStar e = true) (es : List Expr) (env : Env) : assignEach (e :: es) env = (false, assign e env) :: assignEach es env := by
  cases e <;> first | rfl | (simp [notStar] at h)
theorem SemGs.go {es : List Expr} {gs : List (AV → AS → (AS → Prop) → QX → Prop)} (h : SemGs B fc R es gs) : ∀ (env : Env) (A : Around) (st : AS) (s : Shared) (xs : List AV) (vs : List Value) (Q : AS → Prop) (X : QX), St B fc env A R st s → RelVs st.σ s.heap xs vs → TGo gs xs st Q X →
    wpAny B.M A (assignInOrder ((assignEach es env).map (·.2)) vs) (PU B fc env A R st s Q) (PX B fc env A R st s X) s := by
  induction h with
  | nil =>
    intro env A st s xs vs Q X S r d
    cases xs with
    | nil =>
      rw [show vs = [] from r]
      exact wpAny_pure ⟨st, S, S.refl, d⟩
    | cons x xs => exact d.elim
  | cons hn hg hs ih =>
    intro env A st s xs vs Q X S r d
    cases xs with
    | nil => exact d.elim
    | cons x xs =>
      obtain ⟨v, vs, rfl, r1, r2⟩ := r
      rw [assignEach_cons hn]
      refine wpAny_bind (wpAny_holding (wpAny_mono (hg env A st s x v _ X S r1 d) ?_ fun _ _ e => e))
      refine fun _ s₁ => PU.el fun st₁ S₁ x₁ q₁ => ?_
      exact wpAny_mono (ih env A st₁ s₁ xs vs Q X S₁ (RelVs.ext x₁ _ r2) q₁) (fun _ _ e => e.of x₁) fun _ _ e => e.of x₁
theorem SemGs.each {es : List Expr} {gs : List (AV → AS → (AS → Prop) → QX → Prop)} (h : SemGs B fc R es gs) (env : Env) : (assignEach es env).length = gs.length ∧ (assignEach es env).findIdx? (·.1) = Option.none := by
  induction h with
  | nil => exact ⟨rfl, rfl⟩
  | cons hn hg hs ih =>
    rw [assignEach_cons hn]
    exact ⟨by simp [ih.1], by simp [List.findIdx?_cons, ih.2]⟩
theorem mvBut {σ : Sto} {s : Shared} {h' : Heap} {t : Nat} (rh : RH B σ s) (e : Heap.ExtBut s.heap.objs.size s.heap h') (hz : s.heap.objs.size ≤ h'.objs.size) : RH B σ { s with heap := h', toks := t } ∧ Ext NoW σ s σ { s with heap := h', toks := t } := by
  have k : ∀ b o, s.heap.get? b = some o → h'.get? b = some o := fun b o hb => e b o (Nat.ne_of_lt (Heap.lt_size hb)) hb
  have x : Ext NoW σ s σ { s with heap := h', toks := t } := ⟨fun b o _ _ e => ⟨o, k b o e, .refl o⟩, fun _ h1 h2 => absurd h1 h2, hz, fun _ _ h => h.elim⟩
  exact ⟨rh.still x (fun a ob _ e => k a ob e) (fun b o _ e => k b o e) rfl rfl, x⟩
theorem SemG_tuple {es : List Expr} {gs : List (AV → AS → (AS → Prop) → QX → Prop)} {k : Nat} {pos : Pos} (hR : R.hm = false) (h : SemGs B fc R es gs) : SemG B fc R (.Tuple es k pos) (TTup gs) := by
  intro env A st s av v Q X S r d
  unfold TTup at d
  split at d
  · rename_i xs
    obtain ⟨a, vs, rfl, h1, h2, h3⟩ := r
    have hh : A.handled = Option.none := A_none hR S.ao
    obtain ⟨hl, d⟩ := d
    have hit : PyProof.Rows.IsTup s.heap a vs.toArray := ⟨_, h1, rfl, 0, rfl⟩
    rw [assign_Tuple]
    refine wpAny_bind (wpAny_standAt ?_)
    unfold unpack
    rw [(h.each env).1, (h.each env).2, ← hl, ← h3.length]
    refine wpAny_bind (wpAny_holding ?_)
    have hz : vs.length = vs.toArray.size := by simp
    rw [hz]
    refine wpAny_size (unpackItems_tuple hh hit fun h' he hsz => ?_)
    obtain ⟨rh', x'⟩ := mvBut (t := s.toks) S.rh he hsz
    have S' := S.op rh' x'
    refine wpAny_mono (h.go env A _ _ xs vs.toArray.toList Q X S' (by simpa using RelVs.ext x' _ h3) d) (fun _ _ e => e.of (S.extW x')) fun _ _ e => e.of (S.extW x')
  · exact d.elim
end
end Mine
-- MjN
namespace Mine

mutual
noncomputable def dat : AV → Option PyData
  | .none => some .none
  | .bool b => some (.bool b)
  | .int i => some (.int i)
  | .str x => if PyData.strOk x = true then some (.str x) else Option.none
  | .tup xs => (dats xs).map .tuple
  | .rng _ _ _ => Option.none
  | .vw _ _ => Option.none
  | .wrap _ => Option.none
  | .ptr _ => Option.none
  | .con _ => Option.none
noncomputable def dats : List AV → Option (List PyData)
  | [] => some []
  | x :: xs => match dat x, dats xs with
    | some d, some ds => some (d :: ds)
    | _, _ => Option.none
end
noncomputable def dataIn (σ : Sto) : AV → Option PyData
  | .ptr p => match σ p with
    | some (.list xs) => (dats xs).map .list
    | _ => Option.none
  | a => dat a

mutual
theorem RelV.reads {σ : Sto} {h : Heap} : ∀ (av : AV) {v : Value} {d : PyData}, RelV σ h av v → dat av = some d → (∃ as, Reads h v d as) ∧ d.canLay0 = true
  | .none, _, _, r, e => by cases e; cases r; exact ⟨⟨_, .none⟩, by simp [PyData.canLay0]⟩
  | .bool b, _, _, r, e => by cases e; cases r; exact ⟨⟨_, .bool b⟩, by simp [PyData.canLay0]⟩
  | .int i, _, _, ⟨t, r⟩, e => by cases e; cases r; exact ⟨⟨_, .int i t⟩, by simp [PyData.canLay0]⟩
  | .str x, _, d, ⟨t, r⟩, e => by
    have hd : PyData.strOk x = true ∧ d = .str x := by
      unfold dat at e
      by_cases q : PyData.strOk x = true
      · rw [if_pos q] at e; cases e; exact ⟨q, rfl⟩
      · rw [if_neg q] at e; cases e
    obtain ⟨q, rfl⟩ := hd
    cases r
    exact ⟨⟨_, .str x t⟩, by simp [PyData.canLay0, q]⟩
  | .tup xs, _, d, ⟨a, vs, rv, h1, h2, h3⟩, e => by
    unfold dat at e
    rw [Option.map_eq_some_iff] at e
    obtain ⟨ds, e, rfl⟩ := e
    obtain ⟨⟨as, h4⟩, h5⟩ := RelVs.reads xs h3 e
    subst rv
    exact ⟨⟨_, .tuple (vs := vs.toArray) (n := 0) h1 rfl rfl (by simpa using h4)⟩, by simpa [PyData.canLay0] using h5⟩
  | .rng _ _ _, _, _, _, e => by cases e
  | .vw _ _, _, _, _, e => by cases e
  | .wrap _, _, _, _, e => by cases e
  | .ptr _, _, _, _, e => by cases e
  | .con _, _, _, _, e => by cases e
theorem RelVs.reads {σ : Sto} {h : Heap} : ∀ (xs : List AV) {vs : List Value} {ds : List PyData}, RelVs σ h xs vs → dats xs = some ds → (∃ as, ReadsAll h vs ds as) ∧ PyData.canLayAll0 ds = true
  | [], _, _, r, e => by cases e; rw [show _ = [] from r]; exact ⟨⟨_, .nil⟩, by simp [PyData.canLayAll0]⟩
  | x :: xs, _, ds, ⟨v, vs, r, r1, r2⟩, e => by
    unfold dats at e
    split at e
    · rename_i d ds' e1 e2
      cases e
      obtain ⟨⟨a1, h1⟩, k1⟩ := RelV.reads x r1 e1
      obtain ⟨⟨a2, h2⟩, k2⟩ := RelVs.reads xs r2 e2
      subst r
      exact ⟨⟨_, .cons h1 h2⟩, by simp [PyData.canLayAll0, k1, k2]⟩
    · cases e
end

section
variable {B : Bs} {fc : FC} {R R' : Rm} {env : Env} {A : Around}

theorem RH.reads {σ : Sto} {s : Shared} (rh : RH B σ s) {av : AV} {v : Value} {d : PyData} (r : RelV σ s.heap av v) (e : dataIn σ av = some d) : (∃ as, Reads s.heap v d as) ∧ d.canLay0 = true := by
  unfold dataIn at e
  split at e
  · rename_i p
    split at e
    · rename_i xs hp
      rw [Option.map_eq_some_iff] at e
      obtain ⟨ds, e, rfl⟩ := e
      obtain ⟨vs, n, h1, h2⟩ := rh.sto _ _ hp
      obtain ⟨⟨as, h4⟩, h5⟩ := RelVs.reads xs h2 e
      cases r
      exact ⟨⟨_, .list (vs := vs.toArray) (n := n) h1 rfl rfl (by simpa using h4)⟩, by simpa [PyData.canLay0] using h5⟩
    · cases e
  · exact RelV.reads av r e

noncomputable def oEq : AV → AV → OD := fun a b σ Q _ => Ex2 fun da db => An2 ((dataIn σ a = some da ∧ dataIn σ b = some db ∧ da.depth ≤ 100)) (Q (.bool (PyData.eqv da db)) σ)
noncomputable def oNe : AV → AV → OD := fun a b σ Q _ => Ex2 fun da db => An2 ((dataIn σ a = some da ∧ dataIn σ b = some db ∧ da.depth ≤ 100)) (Q (.bool (!PyData.eqv da db)) σ)
theorem cOk {σ : Sto} {s : Shared} (ao : AOk B A R σ s) {a b : Nat} (h : a ≤ 100) : A.units + min a b < cLine := by have := ao.units; unfold cLine; omega
theorem semEq : SemO2 B R (compareOp .Eq) oEq := by
  rintro A σ s a v b u Q X ao rh ra rb ⟨da, db, ⟨h1, h2, h3⟩, hq⟩
  obtain ⟨⟨as, k1⟩, c1⟩ := rh.reads ra h1
  obtain ⟨⟨bs, k2⟩, c2⟩ := rh.reads rb h2
  exact SeqAt.compareEq_reads k1 k2 c1 c2 (cOk ao h3) (PO.bool rh hq)
theorem semNe : SemO2 B R (compareOp .NotEq) oNe := by
  rintro A σ s a v b u Q X ao rh ra rb ⟨da, db, ⟨h1, h2, h3⟩, hq⟩
  obtain ⟨⟨as, k1⟩, c1⟩ := rh.reads ra h1
  obtain ⟨⟨bs, k2⟩, c2⟩ := rh.reads rb h2
  exact SeqAt.compareNe_reads k1 k2 c1 c2 (cOk ao h3) (PO.bool rh hq)

noncomputable def oIn (n : Bool) : AV → AV → OD := fun a c σ Q _ => match c with
  | .ptr p => (∃ xs ds d, (σ p = some (.list xs) ∧ dats xs = some ds ∧ dat a = some d ∧ d.depth ≤ 100) ∧ Q (.bool (n ^^ ds.any fun y => PyData.eqv y d)) σ) ∨
      (∃ xs i, (σ p = some (.set xs) ∧ a = .int i) ∧ Q (.bool (n ^^ decide (i ∈ xs))) σ) ∨
      (∃ es ep i, (σ p = some (.dict es ep) ∧ a = .int i) ∧ Q (.bool (n ^^ (getK es i).isSome)) σ)
  | _ => False
theorem PairE.getKs {σ : Sto} {h : Heap} {es : List (Int × AV)} {kvs : List (Int × Value)} {k : Int} (r : PairE σ h es kvs) : (valueAt kvs k).isSome = (Mine.getK es k).isSome := by
  cases q : Mine.getK es k with
  | none => rw [PairE.getK_none r q]; rfl
  | some x => obtain ⟨v, e, _⟩ := PairE.getK r q; rw [e]; rfl
theorem semIn : SemO2 B R (compareOp .In) (oIn false) := by
  intro A σ s a v c u Q X ao rh ra rc h
  unfold oIn at h
  split at h
  · rename_i p
    cases rc
    rcases h with ⟨xs, ds, d, ⟨h1, h2, h3, h4⟩, hq⟩ | ⟨xs, i, ⟨h1, rfl⟩, hq⟩ | ⟨es, ep, i, ⟨h1, rfl⟩, hq⟩
    · obtain ⟨vs, n, e1, e2⟩ := rh.sto _ _ h1
      obtain ⟨⟨as, k1⟩, c1⟩ := RelVs.reads xs e2 h2
      obtain ⟨⟨bs, k2⟩, c2⟩ := RelV.reads a ra h3
      refine SeqAt.in_list_reads (.list (vs := vs.toArray) (n := n) e1 rfl rfl (by simpa using k1)) k2 c1 c2 ?_ (PO.bool rh (by simpa using hq))
      have := ao.units; unfold cLine; omega
    · obtain ⟨t, rfl⟩ := ra
      exact wpAny_inSet_of (knd := intKind B.prog B.w) (k := i) (intKind_is _ _ _ _) rfl (rh.sto _ _ h1) (PO.valT (x := .bool _) rh rfl (by simpa using hq))
    · obtain ⟨t, rfl⟩ := ra
      obtain ⟨kvs, hm, pr⟩ := rh.sto _ _ h1
      exact wpAny_in_of (knd := intKind B.prog B.w) (k := i) (intKind_is _ _ _ _) (rh.notMod h1) hm.dictOf.mapOf (PO.valT (x := .bool _) rh rfl (by rw [PairE.getKs pr]; simpa using hq))
  · exact h.elim
theorem semNotIn : SemO2 B R (compareOp .NotIn) (oIn true) := by
  intro A σ s a v c u Q X ao rh ra rc h
  unfold oIn at h
  split at h
  · rename_i p
    cases rc
    rcases h with ⟨xs, ds, d, ⟨h1, h2, h3, h4⟩, hq⟩ | ⟨xs, i, ⟨h1, rfl⟩, hq⟩ | ⟨es, ep, i, ⟨h1, rfl⟩, hq⟩
    · obtain ⟨vs, n, e1, e2⟩ := rh.sto _ _ h1
      obtain ⟨⟨as, k1⟩, c1⟩ := RelVs.reads xs e2 h2
      obtain ⟨⟨bs, k2⟩, c2⟩ := RelV.reads a ra h3
      refine SeqAt.notIn_list_reads (.list (vs := vs.toArray) (n := n) e1 rfl rfl (by simpa using k1)) k2 c1 c2 ?_ (PO.bool rh (by simpa using hq))
      have := ao.units; unfold cLine; omega
    · obtain ⟨t, rfl⟩ := ra
      exact wpAny_notInSet_of (knd := intKind B.prog B.w) (k := i) (intKind_is _ _ _ _) rfl (rh.sto _ _ h1) (PO.valT (x := .bool _) rh rfl (by simpa using hq))
    · obtain ⟨t, rfl⟩ := ra
      obtain ⟨kvs, hm, pr⟩ := rh.sto _ _ h1
      exact wpAny_notIn_of (knd := intKind B.prog B.w) (k := i) (intKind_is _ _ _ _) (rh.notMod h1) hm.dictOf.mapOf (PO.valT (x := .bool _) rh rfl (by rw [PairE.getKs pr]; simpa using hq))
  · exact h.elim

noncomputable def isN : AV → Option Bool
  | .none => some true
  | .con _ => Option.none
  | _ => some false
theorem isN_ok {σ : Sto} {h : Heap} {a : AV} {v : Value} {b : Bool} (r : RelV σ h a v) (e : isN a = some b) : (v == Value.none) = b := by
  cases a <;> simp only [isN, Option.some.injEq, reduceCtorEq] at e <;> subst e
  · cases r; rfl
  · cases r; rfl
  · obtain ⟨t, rfl⟩ := r; rfl
  · obtain ⟨t, rfl⟩ := r; rfl
  · obtain ⟨a, vs, rfl, _⟩ := r; rfl
  · obtain ⟨a, _, _, _, rfl, _⟩ := r; rfl
  · obtain ⟨a, rfl, _⟩ := r; rfl
  · obtain ⟨a, rfl, _⟩ := r; rfl
  · cases r; rfl
noncomputable def oIs (n : Bool) : AV → AV → OD := fun a b σ Q _ => match b with
  | .none => ∃ c, isN a = some c ∧ Q (.bool (n ^^ c)) σ
  | .bool y => match a with
    | .bool x => Q (.bool (n ^^ (x == y))) σ
    | _ => False
  | _ => False
theorem semIs : SemO2 B R (compareOp .Is) (oIs false) := by
  intro A σ s a v b u Q X ao rh ra rb h
  unfold oIs at h
  split at h
  · obtain ⟨c, e, hq⟩ := h
    cases rb
    refine is_none (PO.bool rh ?_)
    rw [isN_ok ra e]; simpa using hq
  · rename_i y
    cases rb
    split at h
    · rename_i x
      cases ra
      exact wpAny_is_plain rfl (PO.bool rh (by cases x <;> cases y <;> exact h))
    · exact h.elim
  · exact h.elim
theorem semIsNot : SemO2 B R (compareOp .IsNot) (oIs true) := by
  intro A σ s a v b u Q X ao rh ra rb h
  unfold oIs at h
  split at h
  · obtain ⟨c, e, hq⟩ := h
    cases rb
    refine isNot_none (PO.bool rh ?_)
    rw [isN_ok ra e]; simpa using hq
  · rename_i y
    cases rb
    split at h
    · rename_i x
      cases ra
      exact wpAny_isNot_plain rfl (PO.bool rh (by cases x <;> cases y <;> exact h))
    · exact h.elim
  · exact h.elim

noncomputable def oAddX : AV → AV → OD := fun a b σ Q _ => match a, b with
  | .int x, .int y => Q (.int (x + y)) σ
  | .str x, .str y => x.length + y.length < 1000 ∧ Q (.str (x ++ y)) σ
  | .ptr p, .ptr q => ∃ xs ys, (σ p = some (.list xs) ∧ σ q = some (.list ys) ∧ xs.length + ys.length < 1000) ∧ ∀ a, σ a = Option.none → Q (.ptr a) (upd σ a (.list (xs ++ ys)))
  | _, _ => False
theorem semAdd : SemO2 B R (binaryOp .Add) oAddX := by
  intro A σ s a v b u Q X ao rh ra rb h
  unfold oAddX at h
  split at h
  · rename_i x y
    exact semAdd_int A σ s (.int x) v (.int y) u Q X ao rh ra rb h
  · rename_i x y
    obtain ⟨t, rfl⟩ := ra; obtain ⟨t', rfl⟩ := rb
    exact PyProof.Rows.add_str (fun t' tk => ⟨.str (x ++ y), σ, rh.toks _, Ext.toks _ _ _, ⟨_, rfl⟩, h.2⟩) (sizeOk h.1)
  · rename_i p q
    obtain ⟨xs, ys, ⟨h1, h2, h3⟩, hq⟩ := h
    cases ra; cases rb
    obtain ⟨vs, n, e1, r1⟩ := rh.sto _ _ h1
    obtain ⟨ws, m, e2, r2⟩ := rh.sto _ _ h2
    refine PySem.P.add_list (items := vs.toArray) (items2 := ws.toArray) e1 e2 ?_ (sizeOk (by simp [r1.length, r2.length]; exact h3))
    have := PO.listP (n := 0) (t := s.toks) (Q := Q) rh (r1.append r2) hq
    simpa [listO] using this
  · exact h.elim
noncomputable def oNeg : AV → OD := fun a σ Q _ => match a with
  | .int x => Q (.int (-x)) σ
  | _ => False
theorem semNeg : SemO1 B R (unaryOp .USub) oNeg := by
  intro A σ s a v Q X ao rh ra h
  unfold oNeg at h
  split at h
  · obtain ⟨t, rfl⟩ := ra
    exact PySem.P.neg_int (PO.int rh h)
  · exact h.elim
theorem SemE_unary {e : Expr} {op : UnaryOp} {pos : Pos} {f : AV → OD} {a : ED} (hf : SemO1 B R (unaryOp op) f) (ha : SemE B fc R e a) : SemE B fc R (.UnaryOp op e pos) (Op1 f a) := by
  intro env A st s Q X S d
  refine wpAny_UnaryOp (wpAny_mono (ha env A st s _ X S d) ?_ fun _ _ e => e)
  refine fun v₁ s₁ => PV.el fun av₁ st₁ S₁ x₁ r₁ q₁ => ?_
  exact wpAny_mono (hf A st₁.σ s₁ _ _ _ _ S₁.ao S₁.rh r₁ q₁) (fun v s' h => (PV.op S₁ h).of x₁) fun v s' h => (PX.op S₁ h).of x₁

noncomputable def ENamed (g : AV → AS → (AS → Prop) → QX → Prop) (a : ED) : ED := fun st Q X => a st (fun v st => g v st (fun st => Q v st) X) X
theorem SemE_named {t e : Expr} {pos : Pos} {g : AV → AS → (AS → Prop) → QX → Prop} {a : ED} (ha : SemE B fc R e a) (hg : SemG B fc R t g) : SemE B fc R (.NamedExpr t e pos) (ENamed g a) := by
  intro env A st s Q X S d
  refine wpAny_NamedExpr (wpAny_mono (ha env A st s _ X S d) ?_ fun _ _ e => e)
  refine fun v₁ s₁ => PV.el fun av₁ st₁ S₁ x₁ r₁ q₁ => ?_
  refine wpAny_mono (hg env A st₁ s₁ _ _ _ X S₁ r₁ q₁) ?_ fun _ _ e => e.of x₁
  refine fun _ s₂ => PU.el fun st₂ S₂ x₂ q₂ => ?_
  exact ⟨av₁, st₂, S₂, x₁.trans x₂, RelV.ext x₂ _ r₁, q₂⟩

noncomputable def EAnd (f : AV → Sto → (Bool → Prop) → Prop) (a b : ED) : ED := fun st Q X => a st (fun v st => f v st.σ (fun t => match t with | true => b st Q X | false => Q v st)) X
noncomputable def EOr (f : AV → Sto → (Bool → Prop) → Prop) (a b : ED) : ED := fun st Q X => a st (fun v st => f v st.σ (fun t => match t with | true => Q v st | false => b st Q X)) X
theorem SemE_or {x y : Expr} {pos : Pos} {f : AV → Sto → (Bool → Prop) → Prop} {a b : ED} (hf : SemT B R truthy f) (ha : SemE B fc R x a) (hb : SemE B fc R y b) : SemE B fc R (.BoolOp .Or [x, y] pos) (EOr f a b) := by
  intro env A st s Q X S d
  refine wpAny_Or2 (wpAny_mono (ha env A st s _ X S d) ?_ fun _ _ e => e)
  refine fun v₁ s₁ => PV.el fun av₁ st₁ S₁ x₁ r₁ q₁ => ?_
  refine wpAny_mono (hf A st₁.σ s₁ _ _ _ (PX B fc env A R st s X) S₁.ao S₁.rh r₁ q₁) ?_ fun _ _ e => e
  rintro t s₂ ⟨h1, h2, h3⟩
  have S₂ := S₁.op h1 h2
  have x₂ := x₁.trans (S₁.extW h2)
  cases t with
  | true => exact ⟨av₁, st₁, S₂, x₂, RelV.ext h2 _ r₁, h3⟩
  | false => exact wpAny_mono (hb env A st₁ s₂ Q X S₂ h3) (fun _ _ e => e.of x₂) fun _ _ e => e.of x₂

theorem SemS_bot {c : Stmt} : SemS B fc R c (fun _ _ _ => False) := fun _ _ _ _ _ _ _ d => d.elim
noncomputable def SAsg2 (g g' : AV → AS → (AS → Prop) → QX → Prop) (a : ED) : SD := fun st Q X => a st (fun v st => g v st (fun st => g' v st (fun st => Q .next st) X) X) X
theorem SemS_assign2 {t t' value : Expr} {pos : Pos} {a : ED} {g g' : AV → AS → (AS → Prop) → QX → Prop} (h : SemE B fc R value a) (hg : SemG B fc R t g) (hg' : SemG B fc R t' g')
    (hw : ∀ env, swappedStores [t, t'] value env = pure none) (hst : ∀ env, (assignEach [t, t'] env).map (·.2) = [assign t env, assign t' env]) : SemS B fc R (.Assign [t, t'] value pos) (SAsg2 g g' a) := by
  intro env A st s Q X S d
  refine wpAny_Assign_two (wpAny_mono (h env A st s _ X S d) ?_ fun _ _ e => e) (hst env) (hw env)
  refine fun v₁ s₁ => PV.el fun av₁ st₁ S₁ x₁ r₁ q₁ => ?_
  refine wpAny_mono (hg env A st₁ s₁ _ _ _ X S₁ r₁ q₁) ?_ fun _ _ e => e.of x₁
  refine fun _ s₂ => PU.el fun st₂ S₂ x₂ q₂ => ?_
  refine wpAny_mono (hg' env A st₂ s₂ _ _ _ X S₂ (RelV.ext x₂ _ r₁) q₂) ?_ fun _ _ e => e.of (x₁.trans x₂)
  refine fun _ s₃ => PU.el fun st₃ S₃ x₃ q₃ => ?_
  exact PF.mk .next st₃ S₃ ((x₁.trans x₂).trans x₃) rfl q₃
theorem swapped_mixed {x : Str} {p q tp vp : Pos} {o i : Expr} {vs : List Expr} {k k' : Nat} (env : Env) : swappedStores [.Tuple [.Name x p, .Subscript o i q] k tp] (.Tuple vs k' vp) env = pure none := by
  unfold swappedStores
  simp only [List.length_cons, List.length_nil, List.filterMap_cons, List.filterMap_nil]
  split
  · rfl
  · split
    · rfl
    · split <;> split <;> rfl
end
end Mine
-- MjO
namespace Mine
noncomputable def iL (ns : List Int) : List AV := ns.map .int
theorem RelVs.intsAre {σ : Sto} {h : Heap} : ∀ {ns : List Int} {vs : List Value}, RelVs σ h (iL ns) vs → IntsAre vs ns
  | [], _, r => by rw [show _ = [] from r]; exact .nil
  | n :: ns, _, ⟨v, vs, e, ⟨t, e'⟩, r⟩ => by subst e e'; exact .cons n t (RelVs.intsAre r)
theorem IntsAre.relVs {σ : Sto} {h : Heap} : ∀ {vs : List Value} {ns : List Int}, IntsAre vs ns → RelVs σ h (iL ns) vs
  | _, _, .nil => rfl
  | _, _, .cons n t r => ⟨_, _, rfl, ⟨t, rfl⟩, IntsAre.relVs r⟩
theorem IntsAre.items : ∀ {vs : List Value} {ns : List Int}, IntsAre vs ns → ∃ xs : Array (Int × Tok), vs.toArray = intItems xs ∧ xs.toList.map (·.1) = ns
  | _, _, .nil => ⟨#[], by simp [intItems], rfl⟩
  | _, _, .cons n t r => by
    obtain ⟨xs, e1, e2⟩ := IntsAre.items r
    refine ⟨((n, t) :: xs.toList).toArray, ?_, by simp [e2]⟩
    have := congrArg Array.toList e1
    simp only [intItems, Array.toList_map] at this
    simp [intItems, this]

section
variable {B : Bs} {fc : FC} {R R' : Rm} {env : Env} {A : Around}

theorem mvKeeps {σ : Sto} {s : Shared} {h' : Heap} {t : Nat} (rh : RH B σ s) (k : ∀ b o, s.heap.get? b = some o → h'.get? b = some o) (hz : s.heap.objs.size ≤ h'.objs.size) : RH B σ { s with heap := h', toks := t } ∧ Ext NoW σ s σ { s with heap := h', toks := t } := by
  have x : Ext NoW σ s σ { s with heap := h', toks := t } := ⟨fun b o _ _ e => ⟨o, k b o e, .refl o⟩, fun _ h1 h2 => absurd h1 h2, hz, fun _ _ h => h.elim⟩
  exact ⟨rh.still x (fun a ob _ e => k a ob e) (fun b o _ e => k b o e) rfl rfl, x⟩
theorem AOk.none {σ : Sto} {s : Shared} (ao : AOk B A R σ s) (hR : R.hm = false) : A.handled = Option.none := by
  exact A_none hR ao

noncomputable def oRange : List AV → OD := fun as σ Q _ => match as with
  | [.int n] => Q (.rng 0 n 1) σ
  | [.int a, .int b] => Q (.rng a b 1) σ
  | [.int a, .int b, .int c] => (c ≠ 0 ∧ Builtin.divisionGoesByPylong (b - a) c = false) ∧ Q (.rng a b c) σ
  | _ => False
theorem semRange : SemOn B R (fun vs => call (.type "range") vs) oRange := by
  intro A σ s as vs Q X ao rh r h
  unfold oRange at h
  have fin : ∀ (a b c : Int) (t u v : Tok) (tk : Nat), Q (.rng a b c) σ → PO B σ s Q (.ref s.heap.objs.size) { s with heap := s.heap.push (rngO a b c t u v), toks := tk } := by
    intro a b c t u v tk hq
    obtain ⟨h1, h2⟩ := mvPush rh (rngO a b c t u v) tk
    exact ⟨.rng a b c, σ, h1, h2, ⟨_, t, u, v, rfl, Heap.get?_push_size _ rfl, rh.freshN (Nat.le_refl _)⟩, hq⟩
  split at h
  · obtain ⟨v1, w1, rfl, ⟨t1, rfl⟩, h3⟩ := r
    cases h3
    exact call_range_1 (fin _ _ _ _ _ _ _ h)
  · obtain ⟨v1, w1, rfl, ⟨t1, rfl⟩, v2, w2, rfl, ⟨t2, rfl⟩, h3⟩ := r
    cases h3
    exact call_range_2 (fin _ _ _ _ _ _ _ h)
  · obtain ⟨v1, w1, rfl, ⟨t1, rfl⟩, v2, w2, rfl, ⟨t2, rfl⟩, v3, w3, rfl, ⟨t3, rfl⟩, h3⟩ := r
    cases h3
    exact call_range_3 h.1.1 (fin _ _ _ _ _ _ _ h.2) (.inl h.1.2)
  · exact h.elim

noncomputable def rngI (a c : Int) : Nat → List Int
  | 0 => []
  | n + 1 => a :: rngI (a + c) c n
theorem rngL_eq (a c : Int) (n : Nat) : rngL a c n = iL (rngI a c n) := by
  induction n generalizing a with
  | zero => rfl
  | succ n ih => simp [rngL, rngI, iL, ih]
noncomputable def oTupleOf : List AV → OD := fun as σ Q _ => match as with
  | [.ptr p] => ∃ xs, (σ p = some (.list xs) ∧ xs.length < 1000) ∧ Q (.tup xs) σ
  | _ => False
theorem semTupleOf : SemOn B R (fun vs => call (.type "tuple") vs) oTupleOf := by
  intro A σ s as vs Q X ao rh r h
  unfold oTupleOf at h
  split at h
  · obtain ⟨v1, w1, rfl, h1, h3⟩ := r
    cases h3; cases h1
    obtain ⟨xs, ⟨e, hl⟩, hq⟩ := h
    obtain ⟨vs, n, e', r⟩ := rh.sto _ _ e
    refine wpAny_size (call_tuple_list (items := vs.toArray) ⟨_, e', rfl, n, rfl⟩ (fun h' hk hz => ?_) (sizeOk (by simp [r.length]; exact hl)))
    have hz' : s.heap.objs.size ≤ h'.objs.size + 1 := by
      have : (h'.push { cls := .type "tuple", data := .seq vs.toArray }).objs.size = h'.objs.size + 1 := Heap.size_push ..
      have hz : s.heap.objs.size ≤ (h'.push { cls := .type "tuple", data := .seq vs.toArray }).objs.size := hz
      omega
    have k : ∀ b o, s.heap.get? b = some o → (h'.push (tupO vs)).get? b = some o := fun b o e => Heap.get?_push_of_some _ (hk b o e)
    obtain ⟨rh', x'⟩ := mvKeeps (t := s.toks) rh k hz
    have hne : σ h'.objs.size = Option.none := by
      cases q : σ h'.objs.size with
      | none => rfl
      | some o =>
        obtain ⟨ob, hob⟩ := (rh.sto _ _ q).there
        exact absurd (Heap.lt_size (hk _ _ hob)) (Nat.lt_irrefl _)
    exact ⟨.tup xs, σ, rh', x', ⟨_, vs, rfl, Heap.get?_push_size _ rfl, hne, RelVs.ext x' _ r⟩, hq⟩
  · exact h.elim

noncomputable def oSum : List AV → OD := fun as σ Q _ => match as with
  | [.ptr p] => ∃ ns, σ p = some (.list (iL ns)) ∧ Q (.int ns.sum) σ
  | _ => False
theorem semSum (hR : R.hm = false) : SemOn B R (fun vs => call (.builtin "sum") vs) oSum := by
  intro A σ s as vs Q X ao rh r h
  unfold oSum at h
  split at h
  · obtain ⟨v1, w1, rfl, h1, h3⟩ := r
    cases h3; cases h1
    obtain ⟨ns, e, hq⟩ := h
    obtain ⟨vs, n, e', r⟩ := rh.sto _ _ e
    obtain ⟨xs, e1, e2⟩ := IntsAre.items r.intsAre
    refine wpAny_size (sum_intListG (xs := xs) (ao.none hR) ⟨_, e', rfl, n, by rw [← e1]; rfl⟩ fun h' tk t' hk hz => ?_)
    obtain ⟨rh', x'⟩ := mvKeeps (t := tk) rh hk hz
    refine ⟨.int ns.sum, σ, rh', x', ⟨t', ?_⟩, hq⟩
    rw [preSum_eq, e2, List.take_of_length_le (by rw [← e2]; simp)]
  · exact h.elim
noncomputable def oMax : List AV → OD := fun as σ Q _ => match as with
  | [.ptr p] => ∃ ns, (σ p = some (.list (iL ns)) ∧ ns ≠ []) ∧ ∀ m, m ∈ ns → (∀ a ∈ ns, a ≤ m) → Q (.int m) σ
  | [.int a, .int b] => Q (.int (max a b)) σ
  | _ => False
theorem semMax (hR : R.hm = false) : SemOn B R (fun vs => call (.builtin "max") vs) oMax := by
  intro A σ s as vs Q X ao rh r h
  unfold oMax at h
  split at h
  · obtain ⟨v1, w1, rfl, h1, h3⟩ := r
    cases h3; cases h1
    obtain ⟨ns, ⟨e, hne⟩, hq⟩ := h
    obtain ⟨vs, n, e', r⟩ := rh.sto _ _ e
    obtain ⟨xs, e1, e2⟩ := IntsAre.items r.intsAre
    have hsz : 0 < xs.size := by
      rcases Nat.eq_zero_or_pos xs.size with q | q
      · exact absurd (by rw [← e2, show xs = #[] from Array.eq_empty_of_size_eq_zero q]; rfl) hne
      · exact q
    refine wpAny_size (max_intList (xs := xs) (ao.none hR) ⟨_, e', rfl, n, by rw [← e1]; rfl⟩ hsz fun v h' tk hv hk hz => ?_)
    obtain ⟨rh', x'⟩ := mvKeeps (t := tk) rh hk hz
    obtain ⟨t, rfl⟩ := intItems_at hv
    obtain ⟨h1, h2⟩ := argBest_gt (numAt xs) (xs.size - 1)
    refine ⟨.int _, σ, rh', x', ⟨t, rfl⟩, hq _ ?_ fun a ha => ?_⟩
    · rw [← e2, numAt_eq]
      have hl : argBest (fun i j => decide (numAt xs i > numAt xs j)) (xs.size - 1) < (xs.toList.map (·.1)).length := by rw [List.length_map, Array.length_toList]; omega
      rw [List.getD_eq_getElem?_getD, List.getElem?_eq_getElem hl]
      exact List.getElem_mem hl
    · rw [← e2] at ha
      obtain ⟨j, hj, rfl⟩ := List.mem_iff_getElem.mp ha
      have hj' : j < xs.size := by simpa using hj
      have := h2 j (by omega)
      rw [numAt_eq, List.getD_eq_getElem?_getD, List.getElem?_eq_getElem hj] at this
      exact this
  · obtain ⟨v1, w1, rfl, ⟨t1, rfl⟩, v2, w2, rfl, ⟨t2, rfl⟩, h3⟩ := r
    cases h3
    rename_i a b
    refine wpAny_size (max_two_ints (ao.none hR) fun h' tk hk hz => ?_)
    obtain ⟨rh', x'⟩ := mvKeeps (t := tk) rh hk hz
    refine ⟨.int (max a b), σ, rh', x', ?_, h⟩
    by_cases q : b > a
    · rw [if_pos q]; exact ⟨t2, by rw [Int.max_eq_right (by omega)]⟩
    · rw [if_neg q]; exact ⟨t1, by rw [Int.max_eq_left (by omega)]⟩
  · exact h.elim
noncomputable def oMin : List AV → OD := fun as σ Q _ => match as with
  | [.ptr p] => ∃ ns, (σ p = some (.list (iL ns)) ∧ ns ≠ []) ∧ ∀ m, m ∈ ns → (∀ a ∈ ns, m ≤ a) → Q (.int m) σ
  | [.int a, .int b] => Q (.int (min a b)) σ
  | _ => False
theorem semMin (hR : R.hm = false) : SemOn B R (fun vs => call (.builtin "min") vs) oMin := by
  intro A σ s as vs Q X ao rh r h
  unfold oMin at h
  split at h
  · obtain ⟨v1, w1, rfl, h1, h3⟩ := r
    cases h3; cases h1
    obtain ⟨ns, ⟨e, hne⟩, hq⟩ := h
    obtain ⟨vs, n, e', r⟩ := rh.sto _ _ e
    obtain ⟨xs, e1, e2⟩ := IntsAre.items r.intsAre
    have hsz : 0 < xs.size := by
      rcases Nat.eq_zero_or_pos xs.size with q | q
      · exact absurd (by rw [← e2, show xs = #[] from Array.eq_empty_of_size_eq_zero q]; rfl) hne
      · exact q
    refine wpAny_size (min_intList (xs := xs) (ao.none hR) ⟨_, e', rfl, n, by rw [← e1]; rfl⟩ hsz fun v h' tk hv hk hz => ?_)
    obtain ⟨rh', x'⟩ := mvKeeps (t := tk) rh hk hz
    obtain ⟨t, rfl⟩ := intItems_at hv
    obtain ⟨h1, h2⟩ := argBest_lt (numAt xs) (xs.size - 1)
    refine ⟨.int _, σ, rh', x', ⟨t, rfl⟩, hq _ ?_ fun a ha => ?_⟩
    · rw [← e2, numAt_eq]
      have hl : argBest (fun i j => decide (numAt xs i < numAt xs j)) (xs.size - 1) < (xs.toList.map (·.1)).length := by rw [List.length_map, Array.length_toList]; omega
      rw [List.getD_eq_getElem?_getD, List.getElem?_eq_getElem hl]
      exact List.getElem_mem hl
    · rw [← e2] at ha
      obtain ⟨j, hj, rfl⟩ := List.mem_iff_getElem.mp ha
      have hj' : j < xs.size := by simpa using hj
      have := h2 j (by omega)
      rw [numAt_eq _ j, List.getD_eq_getElem?_getD, List.getElem?_eq_getElem hj] at this
      exact this
  · obtain ⟨v1, w1, rfl, ⟨t1, rfl⟩, v2, w2, rfl, ⟨t2, rfl⟩, h3⟩ := r
    cases h3
    rename_i a b
    refine wpAny_size (min_two_ints (ao.none hR) fun h' tk hk hz => ?_)
    obtain ⟨rh', x'⟩ := mvKeeps (t := tk) rh hk hz
    refine ⟨.int (min a b), σ, rh', x', ?_, h⟩
    by_cases q : b < a
    · rw [if_pos q]; exact ⟨t2, by rw [Int.min_eq_right (by omega)]⟩
    · rw [if_neg q]; exact ⟨t1, by rw [Int.min_eq_left (by omega)]⟩
  · exact h.elim
noncomputable def oAbs : List AV → OD := fun as σ Q _ => match as with
  | [.int a] => Q (.int (if a < 0 then -a else a)) σ
  | _ => False
theorem semAbs : SemOn B R (fun vs => call (.builtin "abs") vs) oAbs := by
  intro A σ s as vs Q X ao rh r h
  unfold oAbs at h
  split at h
  · obtain ⟨v1, w1, rfl, ⟨t1, rfl⟩, h3⟩ := r
    cases h3
    exact call_abs_int fun u tk => PO.valT (x := .int _) rh ⟨_, rfl⟩ h
  · exact h.elim
noncomputable def oSorted : List AV → OD := fun as σ Q _ => match as with
  | [.ptr p] => ∃ ns, (σ p = some (.list (iL ns)) ∧ ns.length < 64) ∧ ∀ ms, ms.Perm ns → ms.Pairwise (· ≤ ·) → ∀ a, σ a = Option.none → Q (.ptr a) (upd σ a (.list (iL ms)))
  | _ => False
theorem semSorted : SemOn B R (fun vs => call (.builtin "sorted") vs) oSorted := by
  intro A σ s as vs Q X ao rh r h
  unfold oSorted at h
  split at h
  · obtain ⟨v1, w1, rfl, h1, h3⟩ := r
    cases h3; cases h1
    obtain ⟨ns, ⟨e, hl⟩, hq⟩ := h
    obtain ⟨vs, n, e', r⟩ := rh.sto _ _ e
    refine wpAny_size (sorted_ints ⟨_, e', rfl, n, rfl⟩ r.intsAre (by have := r.length; simp [iL] at this; omega) fun out ns' a1 a2 a3 hz => ?_)
    obtain ⟨rh', x'⟩ := mvKeeps (t := s.toks) rh (fun _ _ => sortedAll_old) hz
    obtain ⟨e, he⟩ := sortedAll_at s.heap vs out
    exact PO.list (vs := out.toList) (n := e) rh rh' x' (Nat.le_succ _) (by simpa [listO, seqObj] using he) (IntsAre.relVs a1) (hq ns' a2 a3)
  · exact h.elim
end
end Mine
-- MjP
namespace Mine
noncomputable def pickL {α : Type} (xs : List α) (lo hi st : Option Int) : List α :=
  (sliceRange (sliceBounds lo hi st xs.length).1 (sliceBounds lo hi st xs.length).2.1 (sliceBounds lo hi st xs.length).2.2).filterMap (xs[·]?)
theorem pickL_map {α β : Type} (f : α → β) (xs : List α) (lo hi st : Option Int) : pickL (xs.map f) lo hi st = (pickL xs lo hi st).map f := by
  unfold pickL
  rw [List.map_filterMap]
  simp
theorem pickL_plain {α : Type} (xs : List α) (lo hi : Option Int) : pickL xs lo hi none = (xs.drop (lo.elim 0 (clipAt xs.length))).take (hi.elim xs.length (clipAt xs.length) - lo.elim 0 (clipAt xs.length)) := by
  unfold pickL
  rw [sliceBounds_plain]
  rw [sliceRange_one]
  have := pick_run xs.toArray (lo.elim 0 (clipAt xs.length)) (hi.elim xs.length (clipAt xs.length) - lo.elim 0 (clipAt xs.length))
  simpa using this
theorem RelVs.pick {σ : Sto} {h : Heap} {xs : List AV} {vs : List Value} (r : RelVs σ h xs vs) : ∀ (is : List Nat), RelVs σ h (is.filterMap (xs[·]?)) (is.filterMap (vs[·]?))
  | [] => rfl
  | i :: is => by
    have ih := RelVs.pick r is
    rw [List.filterMap_cons, List.filterMap_cons]
    cases q : xs[i]? with
    | none =>
      have : vs[i]? = Option.none := by rw [List.getElem?_eq_none_iff] at q ⊢; rw [r.length]; exact q
      rw [this]; exact ih
    | some x =>
      obtain ⟨v, h1, h2⟩ := r.get q
      rw [h1]; exact ⟨v, _, rfl, h2, ih⟩

section
variable {B : Bs} {fc : FC} {R R' : Rm} {env : Env} {A : Around}

noncomputable def SemP (B : Bs) (fc : FC) (R : Rm) (x : Option Expr) (d : ED) : Prop :=
  ∀ env A st s Q X, St B fc env A R st s → d st Q X → wpAny B.M A (evalPart x env) (PV B fc env A R st s Q) (PX B fc env A R st s X) s
theorem SemP_none : SemP B fc R none (Con .none) := by
  intro env A st s Q X S d
  rw [evalPart_none]
  exact wpAny_pure (PV.ret S (av := .none) rfl d)
theorem SemP_some {e : Expr} {d : ED} (h : SemE B fc R e d) : SemP B fc R (some e) d := fun env A st s Q X S q => by rw [evalPart_some]; exact h env A st s Q X S q
noncomputable def ESlice (f : AV → AV → AV → AV → OD) (o l u t : ED) : ED := fun st Q X => o st (fun vo st => l st (fun vl st => u st (fun vu st => t st (fun vt st => f vo vl vu vt st.σ (fun r σ => Q r ⟨st.m, σ⟩) (fun x σ => X x ⟨st.m, σ⟩)) X) X) X) X
noncomputable def part : AV → Option (Option Int)
  | .none => some none
  | .int i => some (some i)
  | _ => none
theorem part_ok {σ : Sto} {h : Heap} {a : AV} {v : Value} {k : Option Int} (r : RelV σ h a v) (e : part a = some k) : IsPart v k := by
  cases a <;> simp only [part, Option.some.injEq, reduceCtorEq] at e <;> subst e
  · cases r; exact .none
  · obtain ⟨t, rfl⟩ := r; exact .int _ t
noncomputable def oSlice (h₀ : Heap) : AV → AV → AV → AV → OD := fun o l u t σ Q _ => match o with
  | .ptr p => ∃ xs lo hi st, (σ p = some (.list xs) ∧ xs.length < 1000 ∧ part l = some lo ∧ part u = some hi ∧ part t = some st ∧ st ≠ some 0) ∧ ∀ a, σ a = Option.none → Q (.ptr a) (upd σ a (.list (pickL xs lo hi st)))
  | .con v => ∃ p vs ns lo hi st, v = .ref p ∧ (h₀.IsList p vs.toArray ∧ IntsAre vs ns ∧ ns.length < 1000 ∧ part l = some lo ∧ part u = some hi ∧ part t = some st ∧ st ≠ some 0) ∧ ∀ a, σ a = Option.none → Q (.ptr a) (upd σ a (.list (pickL (iL ns) lo hi st)))
  | _ => False
theorem SemE_slice {value : Expr} {lower upper step : Option Expr} {p pos : Pos} {o l u t : ED} (ho : SemE B fc R value o) (hl : SemP B fc R lower l) (hu : SemP B fc R upper u) (ht : SemP B fc R step t)
    (hs : ∀ o i, ∃ ops, subscripted (.Slice lower upper step p) false o i = operate ops (getItem o i)) : SemE B fc R (.Subscript value (.Slice lower upper step p) pos) (ESlice (oSlice B.h₀) o l u t) := by
  intro env A st s Q X S d
  refine Subscript_ (wpAny_mono (ho env A st s _ X S d) ?_ fun _ _ e => e)
  refine fun v₁ s₁ => PV.el fun av₁ st₁ S₁ x₁ r₁ q₁ => ?_
  refine wpAny_Slice (wpAny_mono (hl env A st₁ s₁ _ X S₁ q₁) ?_ fun _ _ e => e.of x₁)
  refine fun v₂ s₂ => PV.el fun av₂ st₂ S₂ x₂ r₂ q₂ => ?_
  refine wpAny_mono (hu env A st₂ s₂ _ X S₂ q₂) ?_ fun _ _ e => e.of (x₁.trans x₂)
  refine fun v₃ s₃ => PV.el fun av₃ st₃ S₃ x₃ r₃ q₃ => ?_
  refine wpAny_mono (ht env A st₃ s₃ _ X S₃ q₃) ?_ fun _ _ e => e.of ((x₁.trans x₂).trans x₃)
  refine fun v₄ s₄ => PV.el fun av₄ st₄ S₄ x₄ r₄ q₄ => ?_
  obtain ⟨rh', x'⟩ := mvPush S₄.rh { cls := .type "slice", data := .fields #[v₂, v₃, v₄] } s₄.toks
  have S' := S₄.op rh' x'
  have E : ∃ (p : Addr) (xs : List AV) (vs : List Value) (lo hi stp : Option Int), v₁ = .ref p ∧ (s₄.heap.push { cls := .type "slice", data := .fields #[v₂, v₃, v₄] }).IsList p vs.toArray ∧ RelVs st₄.σ (s₄.heap.push { cls := .type "slice", data := .fields #[v₂, v₃, v₄] }) xs vs ∧
      (xs.length < 1000 ∧ part av₂ = some lo ∧ part av₃ = some hi ∧ part av₄ = some stp ∧ stp ≠ some 0) ∧ ∀ a, st₄.σ a = Option.none → Q (.ptr a) ⟨st₄.m, upd st₄.σ a (.list (pickL xs lo hi stp))⟩ := by
    unfold oSlice at q₄
    split at q₄
    · obtain ⟨xs, lo, hi, stp, ⟨e1, e2⟩, hq⟩ := q₄
      cases r₁
      obtain ⟨vs, n, e', r'⟩ := S'.rh.sto _ _ e1
      exact ⟨_, xs, vs, lo, hi, stp, rfl, ⟨_, e', rfl, n, rfl⟩, r', e2, hq⟩
    · obtain ⟨p, vs, ns, lo, hi, stp, rfl, ⟨⟨ol, e1, e1'⟩, e2, e3, e4⟩, hq⟩ := q₄
      cases r₁
      exact ⟨p, iL ns, vs, lo, hi, stp, rfl, ⟨ol, S'.rh.old _ _ e1, e1'⟩, IntsAre.relVs e2, ⟨by unfold iL; rw [List.length_map]; exact e3, e4⟩, hq⟩
    · exact q₄.elim
  obtain ⟨p, xs, vs, lo, hi, stp, rfl, e', r', ⟨e2, e3, e4, e5, e6⟩, hq⟩ := E
  obtain ⟨ops, hops⟩ := hs (.ref p) (.ref s₄.heap.objs.size)
  have hp : PO B st₄.σ { s₄ with heap := s₄.heap.push { cls := .type "slice", data := .fields #[v₂, v₃, v₄] } } (fun r σ => Q r ⟨st₄.m, σ⟩) (.ref (s₄.heap.push { cls := .type "slice", data := .fields #[v₂, v₃, v₄] }).objs.size)
      { s₄ with heap := (s₄.heap.push { cls := .type "slice", data := .fields #[v₂, v₃, v₄] }).push (listO (pickL vs lo hi stp) 0) } := by
    refine PO.listP (s := { s₄ with heap := s₄.heap.push { cls := .type "slice", data := .fields #[v₂, v₃, v₄] } }) (n := 0) (t := s₄.toks) rh' ?_ hq
    unfold pickL
    rw [r'.length]
    exact r'.pick _
  refine tail_any (T := "list") (ops := ops) e'.typeIs slot_list_getitem.lookup (wpAny_getItem_list_slice (items := vs.toArray) e' (Heap.IsSliceOf.new _ _ _ _) (part_ok r₂ e3) (part_ok r₃ e4) (part_ok r₄ e5) e6 ?_ (sizeOk (by simp [r'.length]; exact e2))) hops
  have := PV.op (A := A) S' hp
  have h2 := (((((this.of (S₄.extW x')).of x₄).of x₃).of x₂).of x₁)
  simpa [listO, pickL, slicePick] using h2

noncomputable def oClear : List AV → OD := fun as σ Q _ => match as with
  | [.ptr p] => ∃ xs, (σ p = some (.list xs) ∧ xs.length < 1000) ∧ Q .none (upd σ p (.list []))
  | _ => False
theorem semClear : SemOn B R (fun vs => call (.builtin "list.clear") vs) oClear := by
  intro A σ s as vs Q X ao rh r h
  unfold oClear at h
  split at h
  · rename_i p
    obtain ⟨v1, w1, rfl, h1, h3⟩ := r
    cases h1; cases h3
    obtain ⟨xs, ⟨e, hl⟩, hq⟩ := h
    obtain ⟨vs, n, e', r⟩ := rh.sto _ _ e
    have hlen := r.length
    refine call_meets (T := "list") F.slot_list_clear ⟨_, e', rfl⟩ F.entry_list_clear (F.args_list_clear_1 _) (AutoSeq1.list_clear_list_0 p vs.toArray n (sizeOk (by simp; omega))) ⟨e', ?_⟩
    obtain ⟨rh', x'⟩ := list_turn (ys := []) (ws := []) (t := s.toks) rh e e' (f := fun _ => #[]) (by simp) rfl
    exact ⟨.none, _, rh', x', rfl, hq⟩
  · exact h.elim

end
end Mine
-- MjQ
namespace Mine
section
variable {B : Bs} {fc : FC} {R R' : Rm} {env : Env} {A : Around}

noncomputable def EDict0 : ED := fun st Q _ => ∀ a, st.σ a = Option.none → Q (.ptr a) ⟨st.m, upd st.σ a (.dict [] 0)⟩
theorem SemE_dict0 {pos : Pos} : SemE B fc R (.Dict [] [] pos) EDict0 := by
  intro env A st s Q X S d
  refine wpAny_Dict_empty ?_
  obtain ⟨h1, h2⟩ := mvPush S.rh { cls := .type "dict", data := .dict #[] } s.toks
  have hσ := S.rh.freshN (Nat.le_refl s.heap.objs.size)
  obtain ⟨h3, h4⟩ := track (o := .dict [] 0) h1 h2 (Nat.le_refl _) hσ S.rh.size (Heap.get?_push_size _ rfl) (nImm (n := "dict") rfl (by decide))
    ⟨[], ⟨_, #[], Heap.get?_push_size _ rfl, ⟨rfl, rfl, rfl⟩, rfl, fun _ he => by simp at he, Pairs.nil, List.nodup_nil⟩, rfl⟩
  exact PV.op S ⟨.ptr _, _, h3, h4, rfl, d _ hσ⟩
noncomputable def isDict (a : AV) (σ : Sto) : Prop := Ex3 fun p es ep => An2 (a = .ptr p) (σ p = some (.dict es ep))
theorem gm_dict {name : Str} {id : String} (slot : Slot "dict" name id) (hty : typeOf (.builtin id) = pure (.type "method_descriptor")) : SemGM B name (.builtin id) isDict := by
  rintro A σ s av v pl Q E rh r ⟨p, es, ep, rfl, e⟩ h
  cases r
  obtain ⟨kvs, hm, pr⟩ := rh.sto _ _ e
  exact getMethod_builtin hm.dictOf.mapOf.typeIs PySem.F.plainAttrs_dict slot hty hm.dictOf.mapOf.noDict h
noncomputable def oGet : List AV → OD := fun as σ Q _ => match as with
  | [.ptr p, .int k] => ∃ es ep, σ p = some (.dict es ep) ∧ Q ((getK es k).getD .none) σ
  | _ => False
theorem semGet : SemOn B R (fun vs => call (.builtin "dict.get") vs) oGet := by
  intro A σ s as vs Q X ao rh r h
  unfold oGet at h
  split at h
  · rename_i p k
    obtain ⟨v1, w1, rfl, h1, v2, w2, rfl, ⟨t, rfl⟩, h3⟩ := r
    cases h1; cases h3
    obtain ⟨es, ep, e, hq⟩ := h
    obtain ⟨kvs, hm, pr⟩ := rh.sto _ _ e
    refine call_meetsIn PySem.F.slot_dict_get hm.dictOf.mapOf.typeIs PySem.F.entry_dict_get (PySem.F.args_dict_get_2 _ _) (meets_dict_get (intKind B.prog B.w) p (intKind_is _ _ k t) (rh.notMod e)) ⟨_, hm.dictOf.mapOf, ?_⟩
    refine PO.valT (x := (getK es k).getD .none) rh ?_ hq
    cases q : getK es k with
    | none => rw [PairE.getK_none pr q]; rfl
    | some x => obtain ⟨v, e1, e2⟩ := PairE.getK pr q; rw [e1]; exact e2
  · exact h.elim
noncomputable def oView (k : Bool) : List AV → OD := fun as σ Q _ => match as with
  | [.ptr p] => (∃ es ep, σ p = some (.dict es ep)) ∧ Q (.vw k p) σ
  | _ => False
theorem semValues : SemOn B R (fun vs => call (.builtin "dict.values") vs) (oView false) := by
  intro A σ s as vs Q X ao rh r h
  unfold oView at h
  split at h
  · rename_i p
    obtain ⟨v1, w1, rfl, h1, h3⟩ := r
    cases h1; cases h3
    obtain ⟨⟨es, ep, e⟩, hq⟩ := h
    obtain ⟨kvs, hm, pr⟩ := rh.sto _ _ e
    refine call_meetsIn PySem.F.slot_dict_values hm.dictOf.mapOf.typeIs PySem.F.entry_dict_values (PySem.F.args_dict_values_1 _) (meets_dict_values (intKind B.prog B.w) p (rh.notMod e)) ⟨⟨_, hm.dictOf⟩, ?_⟩
    obtain ⟨h1, h2⟩ := mvPush rh (vwO false p) s.toks
    exact ⟨.vw false p, σ, h1, h2, ⟨_, rfl, Heap.get?_push_size _ rfl, rh.freshN (Nat.le_refl _)⟩, hq⟩
  · exact h.elim
noncomputable def delK (es : List (Int × AV)) (k : Int) : List (Int × AV) := es.filter fun kv => decide (kv.1 ≠ k)
theorem PairE.del {σ : Sto} {h : Heap} {k : Int} : ∀ {es : List (Int × AV)} {kvs : List (Int × Value)}, PairE σ h es kvs → PairE σ h (delK es k) (without kvs k)
  | [], _, e => by rw [show _ = [] from e]; rfl
  | (a, b) :: es, _, ⟨v, kvs, rfl, h1, h2⟩ => by
    have ih := PairE.del (k := k) h2
    unfold delK without
    rw [List.filter_cons, List.filter_cons]
    by_cases q : a = k
    · simp only [q, ne_eq, not_true_eq_false, decide_false, Bool.false_eq_true, if_false]; exact ih
    · simp only [ne_eq, q, not_false_eq_true, decide_true, if_true]; exact ⟨v, _, rfl, h1, ih⟩
noncomputable def oDel : AV → AV → Sto → (Sto → Prop) → Prop := fun a b σ Q => match a, b with
  | .ptr p, .int k => ∃ es ep, (σ p = some (.dict es ep) ∧ es.length < 1000 ∧ (getK es k).isSome = true) ∧ ∀ ep', Q (upd σ p (.dict (delK es k) ep'))
  | _, _ => False
theorem semDel : SemU2 B R delItem oDel := by
  intro A σ s a v b u Q E ao rh ra rb h
  unfold oDel at h
  split at h
  · rename_i p k
    cases ra
    obtain ⟨t, rfl⟩ := rb
    obtain ⟨es, ep, ⟨e, hl, hs⟩, hq⟩ := h
    obtain ⟨kvs, hm, pr⟩ := rh.sto _ _ e
    have hD := hm.dictOf
    unfold delItem
    try with_reducible refine wpAny_holding ?_
    refine wpAny_bind (wpAny_sequenceKey hD.typeIs (by decide) ?_)
    refine wpAny_bind (wpAny_callSpecial?_slot (name := Str.ofString "__delitem__") hD.typeIs PySem.F.slot_dict_delitem
      (call_meetsIn PySem.F.slot_dict_delitem hD.typeIs PySem.F.entry_dict_delitem (PySem.F.args_dict_delitem_2 _ _) (meets_dict_delitem_pairs (intKind B.prog B.w) p (intKind_is _ _ k t)) ⟨kvs, hD, sizeOk (by rw [pr.length]; exact hl), by rw [pr.getKs]; exact hs, fun h' hmm sb => ?_⟩))
    obtain ⟨ep', hm'⟩ := hmm.dictAt
    have x := ext_upd (o' := .dict (delK es k) ep') (t := s.toks + 1) e sb
    exact wpAny_pure ⟨_, rh_upd (o' := .dict (delK es k) ep') rh e sb ⟨_, hm', PairE.ext x pr.del⟩, x, hq ep'⟩
  · exact h.elim
noncomputable def SDel (f : AV → AV → Sto → (Sto → Prop) → Prop) (o i : ED) : SD := fun st Q X => o st (fun vo st => i st (fun vi st => f vo vi st.σ (fun σ => Q .next ⟨st.m, σ⟩)) X) X
theorem SemS_del {o i : Expr} {p pos : Pos} {od id : ED} {f : AV → AV → Sto → (Sto → Prop) → Prop} (hf : SemU2 B R delItem f) (ho : SemE B fc R o od) (hi : SemE B fc R i id) : SemS B fc R (.Delete [.Subscript o i p] pos) (SDel f od id) := by
  intro env A st s Q X S d
  rw [arm_exec_Delete]
  refine wpAny_bind (wpAny_standAt (wpAny_bind ?_))
  rw [arm_deleteEach_cons, arm_deleteEach_nil]
  refine wpAny_bind (delete_Subscript (wpAny_mono (ho env A st s _ X S d) ?_ fun _ _ e => e))
  refine fun v₁ s₁ => PV.el fun av₁ st₁ S₁ x₁ r₁ q₁ => ?_
  refine wpAny_mono (hi env A st₁ s₁ _ X S₁ q₁) ?_ fun _ _ e => e.of x₁
  refine fun v₂ s₂ => PV.el fun av₂ st₂ S₂ x₂ r₂ q₂ => ?_
  refine wpAny_mono (hf A st₂.σ s₂ _ _ _ _ _ _ S₂.ao S₂.rh (RelV.ext x₂ _ r₁) r₂ q₂) ?_ fun _ _ e => e
  rintro _ s₃ ⟨σ₃, rh₃, x₃, q₃⟩
  exact wpAny_pure (wpAny_pure ⟨.next, ⟨st₂.m, σ₃⟩, S₂.op rh₃ x₃, (x₁.trans x₂).trans (S₂.extW x₃), rfl, q₃⟩)

noncomputable def oSet : List AV → OD := fun as σ Q _ => match as with
  | [] => ∀ a, σ a = Option.none → Q (.ptr a) (upd σ a (.set []))
  | _ => False
theorem semSet : SemOn B R (fun vs => call (.type "set") vs) oSet := by
  intro A σ s as vs Q X ao rh r h
  unfold oSet at h
  split at h
  · rw [show vs = [] from r]
    refine call_set_0 fun led => ?_
    obtain ⟨h1, h2⟩ := mvPush rh { cls := .type "set", dict := none, data := .set #[] 0 (.fresh 0 0 led) } s.toks
    have hσ := rh.freshN (Nat.le_refl s.heap.objs.size)
    obtain ⟨h3, h4⟩ := track (o := .set []) h1 h2 (Nat.le_refl _) hσ rh.size (Heap.get?_push_size _ rfl) (nImm (n := "set") rfl (by decide))
      ⟨_, #[], 0, _, Heap.get?_push_size _ rfl, ⟨rfl, rfl, rfl⟩, rfl, fun e he => by simp at he, fun k => by simp, by decide, by rfl, rfl⟩
    exact ⟨.ptr _, _, h3, h4, rfl, h _ hσ⟩
  · exact h.elim
noncomputable def isSet (a : AV) (σ : Sto) : Prop := Ex2 fun p xs => An2 (a = .ptr p) (σ p = some (.set xs))
theorem gm_setAdd : SemGM B "add" (.builtin "set.add") isSet := by
  rintro A σ s av v pl Q E rh r ⟨p, xs, rfl, e⟩ h
  cases r
  exact getMethod_set_add (rh.sto _ _ e) h
noncomputable def putS (xs : List Int) (k : Int) : List Int := if k ∈ xs then xs else k :: xs
noncomputable def oSetAdd : List AV → OD := fun as σ Q _ => match as with
  | [.ptr p, .int k] => ∃ xs, (σ p = some (.set xs) ∧ xs.length + 1 < scanBound) ∧ Q .none (upd σ p (.set (putS xs k)))
  | _ => False
theorem semSetAdd : SemOn B R (fun vs => call (.builtin "set.add") vs) oSetAdd := by
  intro A σ s as vs Q X ao rh r h
  unfold oSetAdd at h
  split at h
  · rename_i p k
    obtain ⟨v1, w1, rfl, h1, v2, w2, rfl, ⟨t, rfl⟩, h3⟩ := r
    cases h1; cases h3
    obtain ⟨xs, ⟨e, hl⟩, hq⟩ := h
    refine call_set_add (knd := intKind B.prog B.w) (k := k) (intKind_is _ _ _ _) rfl (rh.sto _ _ e) hl fun h' sb hS' => ?_
    have x := ext_upd (o' := .set (putS xs k)) (t := s.toks + 1) e sb
    refine ⟨.none, _, rh_upd (o' := .set (putS xs k)) rh e sb ?_, x, rfl, hq⟩
    show h'.SetOf _ p _ _
    have e1 : (fun k' => decide (k' ∈ putS xs k)) = fun k' => decide (k' ∈ xs) || decide (k' = k) := by
      funext k'
      unfold putS
      by_cases q : k ∈ xs
      · rw [if_pos q]
        by_cases q' : k' = k
        · subst q'; simp [q]
        · simp [q']
      · rw [if_neg q]; simp [Bool.or_comm]
    have e2 : (putS xs k).length = if decide (k ∈ xs) = true then xs.length else xs.length + 1 := by
      unfold putS
      by_cases q : k ∈ xs <;> simp [q]
    rw [e1, e2]
    exact hS'
  · exact h.elim
end
end Mine
-- MjR
namespace Mine
noncomputable def lookA (fs : List (Str × AV)) (n : Str) : Option AV := (fs.find? fun p => p.1 = n).map (·.2)
noncomputable def putA : List (Str × AV) → Str → AV → List (Str × AV)
  | [], n, v => [(n, v)]
  | (a, b) :: fs, n, v => if a = n then (a, v) :: fs else (a, b) :: putA fs n v
noncomputable def isCon : AV → Bool
  | .con _ => true
  | _ => false
theorem RelV.handed {σ : Sto} {h : Heap} {a : AV} {v : Value} (r : RelV σ h a v) (e : isCon a = false) : handedIn v = true := by
  cases a <;> simp only [isCon, reduceCtorEq, Bool.true_eq_false] at e
  · cases r; rfl
  · cases r; rfl
  · obtain ⟨t, rfl⟩ := r; rfl
  · obtain ⟨t, rfl⟩ := r; rfl
  · obtain ⟨a, vs, rfl, _⟩ := r; rfl
  · obtain ⟨a, _, _, _, rfl, _⟩ := r; rfl
  · obtain ⟨a, rfl, _⟩ := r; rfl
  · obtain ⟨a, rfl, _⟩ := r; rfl
  · cases r; rfl
theorem isStr_iff (x y : Str) (t : Tok) : (Value.str x t).isStr y = decide (x = y) := by
  by_cases h : x = y
  · subst h; simp [Value.isStr]
  · simp only [h, decide_false]
    simp [Value.isStr, h]
theorem AttrE.get {w : World} {σ : Sto} {h : Heap} : ∀ {fs : List (Str × AV)} {es : List DictEntry} {n : Str} {x : AV}, AttrE w σ h fs es → lookA fs n = some x → ∃ v, getL n es = some (some v) ∧ RelV σ h x v
  | [], _, n, x, _, e => by simp [lookA] at e
  | (a, b) :: fs, _, n, x, ⟨t, v, es, rfl, h1, h2⟩, e => by
    unfold lookA at e
    unfold getL
    rw [List.find?_cons] at e ⊢
    simp only [isStr_iff]
    by_cases q : a = n
    · simp only [q, decide_true] at e ⊢
      cases e
      exact ⟨v, rfl, h1⟩
    · simp only [q, decide_false] at e ⊢
      obtain ⟨v', e1, e2⟩ := AttrE.get h2 e
      refine ⟨v', ?_, e2⟩
      unfold getL at e1
      split at e1
      · rename_i en he; rw [he]; exact e1
      · split at e1 <;> simp at e1
theorem AttrE.noRef {w : World} {σ : Sto} {h : Heap} : ∀ {fs : List (Str × AV)} {es : List DictEntry}, AttrE w σ h fs es → es.any (·.refKey) = false
  | [], _, e => by rw [show _ = [] from e]; rfl
  | (a, b) :: fs, _, ⟨t, v, es, rfl, h1, h2⟩ => by
    rw [List.any_cons, AttrE.noRef h2, Bool.or_false]
    rfl
theorem AttrE.miss {w : World} {σ : Sto} {h : Heap} : ∀ {fs : List (Str × AV)} {es : List DictEntry} {n : Str}, AttrE w σ h fs es → lookA fs n = none → getL n es = some none := by
  intro fs es n r e
  have : es.find? (·.key.isStr n) = none := by
    induction fs generalizing es with
    | nil => rw [show es = [] from r]; rfl
    | cons p fs ih =>
      obtain ⟨a, b⟩ := p
      obtain ⟨t, v, es, rfl, h1, h2⟩ := r
      unfold lookA at e
      rw [List.find?_cons] at e ⊢
      simp only [isStr_iff]
      by_cases q : a = n
      · simp [q] at e
      · simp only [q, decide_false] at e ⊢
        exact ih h2 e
  unfold getL
  rw [this, if_neg (by rw [r.noRef]; decide)]
theorem AttrE.put {w : World} {σ : Sto} {h : Heap} {n : Str} {x : AV} {v : Value} {k : Tok} (hr : RelV σ h x v) : ∀ {fs : List (Str × AV)} {es : List DictEntry}, AttrE w σ h fs es → AttrE w σ h (putA fs n x) (putL n (PyData.keyHash w.params n) (.str n k) v es)
  | [], _, e => by rw [show _ = [] from e]; exact ⟨k, v, [], rfl, hr, rfl⟩
  | (a, b) :: fs, _, ⟨t, u, es, rfl, h1, h2⟩ => by
    unfold putA putL
    simp only [isStr_iff, decide_eq_true_eq]
    by_cases q : a = n
    · rw [if_pos q, if_pos q]; exact ⟨t, v, es, rfl, hr, h2⟩
    · rw [if_neg q, if_neg q]; exact ⟨t, u, _, rfl, h1, AttrE.put hr h2⟩
theorem AttrE.len {w : World} {σ : Sto} {h : Heap} : ∀ {fs : List (Str × AV)} {es : List DictEntry}, AttrE w σ h fs es → es.length = fs.length
  | [], _, e => by rw [show _ = [] from e]; rfl
  | (a, b) :: fs, _, ⟨t, v, es, rfl, h1, h2⟩ => by simp [AttrE.len h2]
theorem SlotE.get {σ : Sto} {h : Heap} : ∀ {vs : List (Option AV)} {es : List (Option Value)} {i : Nat} {x : AV}, SlotE σ h vs es → vs[i]? = some (some x) → ∃ v, es[i]? = some (some v) ∧ RelV σ h x v
  | [], _, i, x, _, e => by simp at e
  | y :: vs, _, 0, x, ⟨v, es, rfl, h1, h2⟩, e => by
    simp at e; subst e
    obtain ⟨v', rfl, r⟩ := RelO.someE h1
    exact ⟨v', rfl, r⟩
  | y :: vs, _, i + 1, x, ⟨v, es, rfl, h1, h2⟩, e => by simp at e ⊢; exact SlotE.get h2 e
theorem SlotE.length {σ : Sto} {h : Heap} : ∀ {vs : List (Option AV)} {es : List (Option Value)}, SlotE σ h vs es → es.length = vs.length
  | [], _, e => by rw [show _ = [] from e]; rfl
  | y :: vs, _, ⟨v, es, rfl, h1, h2⟩ => by simp [SlotE.length h2]
theorem SlotE.set {σ : Sto} {h : Heap} {x : AV} {v : Value} (hr : RelV σ h x v) : ∀ {vs : List (Option AV)} {es : List (Option Value)} {i : Nat}, SlotE σ h vs es → SlotE σ h (vs.set i (some x)) (es.set i (some v))
  | [], _, i, e => by rw [show _ = [] from e]; exact rfl
  | y :: vs, _, 0, ⟨u, es, rfl, h1, h2⟩ => ⟨some v, es, rfl, hr, h2⟩
  | y :: vs, _, i + 1, ⟨u, es, rfl, h1, h2⟩ => ⟨u, _, rfl, h1, SlotE.set hr h2⟩
theorem SlotE.pad {σ : Sto} {h : Heap} : ∀ {vs : List (Option AV)} {es : List (Option Value)} {k : Nat}, SlotE σ h vs es → SlotE σ h (vs ++ List.replicate k none) (es ++ List.replicate k none)
  | [], _, 0, e => by rw [show _ = [] from e]; exact rfl
  | [], _, k + 1, e => by
    rw [show _ = [] from e]
    exact ⟨none, _, rfl, trivial, SlotE.pad (vs := []) (es := []) (k := k) rfl⟩
  | y :: vs, _, k, ⟨u, es, rfl, h1, h2⟩ => ⟨u, _, rfl, h1, SlotE.pad h2⟩

structure AttrOk (K : Frag) (C : Addr) (n : Str) : Prop where
  pg : plainGet K C n = true
  hd : hasDictIn K C = true
  fi : findIn K (.ref C) n = some none
  st : findIn K (.ref C) "__setattr__" = some (some (.builtin "object.__setattr__"))
  po : plainOver K C = true
structure SlotOk (K : Frag) (C : Addr) (n : Str) (p : Addr) (i : Nat) : Prop where
  pg : plainGet K C n = true
  ic : isClsIn K C = true
  ha : findIn K (.ref C) n = some (some (.ref p))
  hn : specialIn K (.ref p) "__get__" = some (some (.builtin "member_descriptor.__get__"))
  ht : takesIn K (.ref p) = some true
  hp : slotIn K p C = some i
  st : findIn K (.ref C) "__setattr__" = some (some (.builtin "object.__setattr__"))
  po : plainOver K C = true
  hT : typeIn K (.ref p) = some (.type "member_descriptor")
  hz : i < 1000
structure MethOk (K : Frag) (C : Addr) (n : Str) (f : Addr) : Prop where
  pg : plainGet K C n = true
  hf : findIn K (.ref C) n = some (some (.ref f))
  ht : isFn K (.ref f) = true

theorem findObj_dataN {K : Frag} {C : Addr} {name : Str} {od : Option Obj} {a g : Value} (hc : isClsIn K C = true) (ha : findIn K (.ref C) name = some (some a)) (hg : specialIn K a "__get__" = some (some g)) (ht : takesIn K a = some true) : findObj K C od name = some (.bind g a) := by
  obtain ⟨cd, hc⟩ := Option.isSome_iff_exists.mp hc
  unfold findObj
  rw [hc, Option.bind_some, ha, Option.bind_some]
  simp [hg, ht]

theorem putL_len (name : Str) (hsh : Int) (key v : Value) : ∀ es : List DictEntry, (putL name hsh key v es).length ≤ es.length + 1
  | [] => by simp [putL]
  | e :: es => by
    unfold putL
    split
    · simp
    · simp [putL_len name hsh key v es]

section
variable {B : Bs} {fc : FC} {R R' : Rm} {env : Env} {A : Around}

theorem instAt {σ : Sto} {s : Shared} (rh : RH B σ s) {p dx : Addr} {C : Addr} {fs : List (Str × AV)} (e1 : σ p = some (.inst C dx)) (e2 : σ dx = some (.attrs fs)) :
    ∃ es n, InstAt s.heap p ⟨.ref C, some dx, .plain, #[]⟩ C (some (dictOf es n)) ∧ AttrE B.w σ s.heap fs es ∧ s.heap.get? dx = some (dictOf es n) := by
  have h1 := rh.sto _ _ e1
  obtain ⟨es, n, h2, h3⟩ := rh.sto _ _ e2
  exact ⟨es, n, ⟨h1, rfl, rfl, h2⟩, h3, h2⟩
theorem slotAt {σ : Sto} {s : Shared} (rh : RH B σ s) {p dx : Addr} {C : Addr} {vs : List (Option AV)} {fs : List (Str × AV)} (e1 : σ p = some (.slots C dx vs)) (e2 : σ dx = some (.attrs fs)) :
    ∃ sl es n, InstAt s.heap p ⟨.ref C, some dx, .plain, sl⟩ C (some (dictOf es n)) ∧ SlotE σ s.heap vs sl.toList := by
  obtain ⟨sl, h1, h2⟩ := rh.sto _ _ e1
  obtain ⟨es, n, h3, h4⟩ := rh.sto _ _ e2
  exact ⟨sl, es, n, ⟨h1, rfl, rfl, h3⟩, h2⟩

noncomputable def oGetA (K : Frag) (n : Str) : AV → OD := fun a σ Q _ => match a with
  | .ptr p => (∃ C dx fs x, (σ p = some (.inst C dx) ∧ σ dx = some (.attrs fs) ∧ AttrOk K C n ∧ lookA fs n = some x ∧ isCon x = false) ∧ Q x σ) ∨
      (∃ C dx fs vs x i pd, (σ p = some (.slots C dx vs) ∧ σ dx = some (.attrs fs) ∧ SlotOk K C n pd i ∧ vs[i]? = some (some x) ∧ isCon x = false) ∧ Q x σ)
  | _ => False
theorem semGetA {n : Str} : SemO1 B R (fun v => getAttr v n true) (oGetA B.K n) := by
  intro A σ s a v Q X ao rh ra h
  unfold oGetA at h
  split at h
  · cases ra
    rcases h with ⟨C, dx, fs, x, ⟨e1, e2, ok, hl, hc⟩, hq⟩ | ⟨C, dx, fs, vs, x, i, pd, ⟨e1, e2, ok, hl, hc⟩, hq⟩
    · obtain ⟨es, m, I, hE, _⟩ := instAt rh e1 e2
      obtain ⟨v, hg, hr⟩ := hE.get hl
      exact get_value rh.inK I (plainGet_of ok.pg).1 (findObj_own ok.hd ok.fi rfl hg) (hr.handed hc) (PO.valT rh hr hq)
    · obtain ⟨sl, es, m, I, hE⟩ := slotAt rh e1 e2
      obtain ⟨v, hg, hr⟩ := hE.get hl
      refine get_bind rh.inK I (plainGet_of ok.pg).1 (findObj_dataN ok.ic ok.ha ok.hn ok.ht) (plainGet_of ok.pg).2 (wpAny_call (slot_get (s := { s with toks := s.toks + 1 }) rh.inK I ok.hp (v := v) ?_ (handed_on (hr.handed hc) (PO.valT rh hr hq))))
      have : sl[i]? = some (some v) := by simpa using hg
      show sl[i]?.join = some v
      rw [this]; rfl
  · exact h.elim
theorem SemE_attr {o : Expr} {n : Str} {pos : Pos} {d : ED} {f : AV → OD} (hf : SemO1 B R (fun v => getAttr v n true) f) (ho : SemE B fc R o d) (hbase : ∀ env, attributeBase o n env (eval o env) = eval o env) : SemE B fc R (.Attribute o n pos) (Op1 f d) := by
  intro env A st s Q X S d
  rw [arm_eval_Attribute, hbase env]
  refine wpAny_bind (wpAny_mono (ho env A st s _ X S d) ?_ fun _ _ e => e)
  refine fun v₁ s₁ => PV.el fun av₁ st₁ S₁ x₁ r₁ q₁ => ?_
  refine wpAny_bind (wpAny_standAt (wpAny_bind (wpAny_holding ?_)))
  refine wpAny_mono (hf A st₁.σ s₁ _ _ _ _ S₁.ao S₁.rh r₁ q₁) (fun v s' h => ?_) fun v s' h => (PX.op S₁ h).of x₁
  exact wpAny_bind (wpAny_letTemporaryGo (wpAny_pure ((PV.op S₁ h).of x₁)))

noncomputable def isInst (C : Addr) (n : Str) (a : AV) (σ : Sto) : Prop := Ex3 fun p dx fs => An4 (a = .ptr p) (σ p = some (.inst C dx)) (σ dx = some (.attrs fs)) (lookA fs n = none)
theorem gm_inst {C f : Addr} {n : Str} (ok : MethOk B.K C n f) : SemGM B n (.ref f) (isInst C n) := by
  rintro A σ s av v pl Q E rh r ⟨p, dx, fs, rfl, e1, e2, hl⟩ h
  cases r
  obtain ⟨es, m, I, hE, _⟩ := instAt rh e1 e2
  exact method_fn rh.inK I (plainGet_of ok.pg).1 (plainGet_of ok.pg).2 ok.hf (beq_iff_eq.mp ok.ht) (by show (lookIn n (dictOf es m)).map _ = _; rw [lookIn_dict, hE.miss hl]; rfl) h

theorem osaD {x dx C : Addr} {ox : Obj} {es : List DictEntry} {n : Nat} {name : Str} {tk : Tok} {v : Value} {s : Shared} {RR : Result → Shared → Prop} (X : B.K.In s.heap) (I : InstAt s.heap x ox C (some (dictOf es n))) (hd : ox.dict = some dx)
    (hp : plainOver B.K C = true) (ht : takerIn B.K C name = some none) (hh : hasDictIn B.K C = true) (hl : (getL name es).isSome = true) (hz : es.length < 500)
    (h : RR (.ok (.ret .none)) { s with heap := s.heap.update dx (Obj.putName name (PyData.keyHash B.w.params name) (.str name s.toks) v), toks := s.toks + 1 }) :
    codeAny B.M A (.call (.builtin "object.__setattr__") ⟨[.ref x, .str name tk, v], []⟩) RR s := by
  refine osa_open X I hp ht fun b => ?_
  obtain ⟨cd, hc, hd'⟩ := any_some hh
  have D : s.heap.get? dx = some (dictOf es n) := by have := I.dict; rw [hd] at this; exact this
  have hput := putName_dict name (PyData.keyHash B.w.params name) (.str name s.toks) v es n
  have D' : (s.heap.update dx (Obj.putName name (PyData.keyHash B.w.params name) (.str name s.toks) v)).get? dx = some (dictOf (putL name (PyData.keyHash B.w.params name) (.str name s.toks) v es) (putN name es n)) :=
    (Heap.get?_update_self _ D (by rw [hput]; rfl)).trans (by rw [hput])
  obtain ⟨hx, hcl, hn, -⟩ := I
  obtain ⟨oc, odi, oda, osl⟩ := ox
  dsimp only at hcl hd
  subst hcl hd
  refine wpAny_bind (wpAny_pure (wpAny_bind (wpAny_bind (wpAny_loadPart hx (wpAny_bind ((looks_clsIn X hc).here ?_))))))
  rw [hd']
  refine wpAny_pure (a := some dx) (wpAny_bind (wpAny_pure (wpAny_bind ?_)))
  unfold nsSet
  refine wpAny_bind (wpAny_bind (wpAny_askSetting (wpAny_pure (wpAny_bind (wpAny_mkText (wpAny_bind (wpAny_loadPart D ?_)))))))
  have c : (!es.toArray.any (·.key.isStr name) && es.toArray.any (·.refKey)) = false := by
    rw [← Array.any_toList, ← Array.any_toList]
    unfold getL at hl
    split at hl
    · rename_i en he
      rw [List.any_eq_true.mpr ⟨en, List.mem_of_find?_eq_some he, List.find?_some he⟩]; rfl
    · split at hl
      · cases hl
      · rename_i z; rw [Bool.not_eq_true] at z; rw [z, Bool.and_false]
  show wpAny _ _ (match (dictOf es n).data with | _ => _) _ _ _
  unfold dictOf
  dsimp only
  rw [aRefKeyMayBeTheName_at, c]
  refine wpAny_updatePart D ?_
  have hlen := putL_len name (PyData.keyHash B.w.params name) (.str name s.toks) v es
  refine wpAny_bind (wpAny_lookBehind D' (pastItsLine_dict (by rw [List.size_toArray, sizeLine_eq]; omega)) ?_)
  exact wpAny_pure h
open Builtin Builtin.ObjectAttr Builtin.Getset_descriptor in
theorem slotS {x p C : Addr} {ox : Obj} {od : Option Obj} {v : Value} {i : Nat} {s : Shared} {RR : Result → Shared → Prop} (X : B.K.In s.heap) (I : InstAt s.heap x ox C od) (hp : slotIn B.K p C = some i) (hi : i < 1000)
    (h : RR (.ok (.ret .none)) { s with heap := s.heap.update x fun o => { o with slots := (o.slots ++ Array.replicate (i + 1 - o.slots.size) none).setIfInBounds i (some v) } }) :
    codeAny B.M A (.call (.builtin "member_descriptor.__set__") ⟨[.ref p, .ref x, v], []⟩) RR s := by
  obtain ⟨n, tn, owner, behind, tb, d, sl, cd, ho, hc, hm, hb, rfl⟩ := slot_of X hp
  obtain ⟨hh, g, dr, t, os⟩ := s
  have L0 := I.type (M := B.M)
  have L1 := looks_mroIn (M := B.M) X hm
  have L2 : Looks B.M hh (Slots.slotNamesOf (.ref C)) cd.slotNames := (looks_clsIn X hc).andThen .now
  have hx := I.at_
  dsimp only at ho hx L0 L1
  have f0 := looks_field (M := B.M) ho 0 (v := .str n tn) rfl
  have f1 := looks_field (M := B.M) ho 1 (v := owner) rfl
  have f3 := looks_field (M := B.M) ho 3 (v := .builtin "proto.slot#set") rfl
  have f4 := looks_field (M := B.M) ho 4 (v := .int behind tb) rfl
  refine codeAny_call_builtin KF.slot_mset.plain KF.entry_mset (KF.slot_mset.check _ _ _ _ _ _ _ _ ⟨_, ho, rfl⟩ (KF.args_mset _ _ _) ?_)
  unfold Builtin.«member_descriptor.__set__» descrSet descrStoreThrough descrCheckInstance descrNameAndClass isInstance
  have f5 : Looks B.M hh (descrItself (.ref p)) [.ref p] := ((Looks.ld (part := none) ho).andThen .now).andThen (Looks.of_pure (by kernel_rfl))
  repeat lk
  refine ⟨Code.quiet_builtin _ (by decide +kernel), codeAny_builtin KF.entry_slotset ?_⟩
  unfold Builtin.«proto.slot#set» Slots.target
  repeat lk
  rw [if_neg hb]
  refine wpAny_pure (wpAny_bind ?_)
  unfold setSlotAt
  dsimp only
  rw [if_neg (by rw [sizeLine_eq]; omega)]
  exact wpAny_updatePart hx (wpAny_pure h)
end
end Mine
-- MjS
namespace Mine
section
variable {B : Bs} {fc : FC} {R R' : Rm} {env : Env} {A : Around}

theorem takerNone {K : Frag} {C : Addr} {n : Str} (h : findIn K (.ref C) n = some none) : takerIn K C n = some none := by
  unfold takerIn; rw [h]; rfl
theorem takerSlot {K : Frag} {C p : Addr} {n : Str} (h : findIn K (.ref C) n = some (some (.ref p))) (ht : takesIn K (.ref p) = some true) : takerIn K C n = some (some (.ref p)) := by
  unfold takerIn; rw [h, Option.bind_some]; dsimp only; rw [ht]; rfl

noncomputable def setS (vs : List (Option AV)) (i : Nat) (x : AV) : List (Option AV) := (vs ++ List.replicate (i + 1 - vs.length) none).set i (some x)
noncomputable def oSetA (K : Frag) (n : Str) : AV → AV → Sto → (Sto → Prop) → Prop := fun a c σ Q => match a with
  | .ptr p => (∃ C dx fs, (σ p = some (.inst C dx) ∧ σ dx = some (.attrs fs) ∧ AttrOk K C n ∧ fs.length < 400) ∧ Q (upd σ dx (.attrs (putA fs n c)))) ∨
      (∃ C dx fs vs i pd, (σ p = some (.slots C dx vs) ∧ σ dx = some (.attrs fs) ∧ SlotOk K C n pd i) ∧ Q (upd σ p (.slots C dx (setS vs i c))))
  | _ => False
theorem semSetA {n : Str} : SemU2 B R (fun o v => setAttr o n v) (oSetA B.K n) := by
  intro A σ s a v b u Q E ao rh ra rb h
  unfold oSetA at h
  split at h
  · cases ra
    rename_i p
    rcases h with ⟨C, dx, fs, ⟨e1, e2, ok, hz⟩, hq⟩ | ⟨C, dx, fs, vs, i, pd, ⟨e1, e2, ok⟩, hq⟩
    · obtain ⟨es, m, I, hE, hD⟩ := instAt rh e1 e2
      have hl : (getL n es).isSome = true := by
        cases q : lookA fs n with
        | none => rw [hE.miss q]; rfl
        | some x => obtain ⟨v, hg, _⟩ := hE.get q; rw [hg]; rfl
      refine set_plain rh.inK I ok.st (osaD (s := { s with toks := s.toks + 1 }) rh.inK I rfl ok.po (takerNone ok.fi) ok.hd hl (by rw [hE.len]; omega) ?_)
      have sb := Heap.SameBut.update s.heap dx (Obj.putName n (PyData.keyHash B.w.params n) (.str n (s.toks + 1)) u)
      have x := ext_upd (o' := .attrs (putA fs n b)) (t := s.toks + 1 + 1) e2 sb
      refine ⟨_, rh_upd (s := s) (t := s.toks + 1 + 1) (o' := .attrs (putA fs n b)) rh e2 sb ?_, x, hq⟩
      have hput := putName_dict n (PyData.keyHash B.w.params n) (.str n (s.toks + 1)) u es m
      exact ⟨_, _, (Heap.get?_update_self _ hD (by rw [hput]; rfl)).trans (by rw [hput]), (hE.put rb).ext x⟩
    · obtain ⟨sl, es, m, I, hE⟩ := slotAt rh e1 e2
      refine set_plain rh.inK I ok.st (osa_descr (s := { s with toks := s.toks + 1 }) KF.slot_mset rh.inK I ok.po (takerSlot ok.ha ok.ht) ok.hT (slotS (s := { s with toks := s.toks + 1 }) rh.inK I ok.hp ok.hz ?_))
      have sb := Heap.SameBut.update s.heap p (fun o => { o with slots := (o.slots ++ Array.replicate (i + 1 - o.slots.size) none).setIfInBounds i (some u) })
      have x := ext_upd (o' := .slots C dx (setS vs i b)) (t := s.toks + 1) e1 sb
      refine ⟨_, rh_upd (s := s) (t := s.toks + 1) (o' := .slots C dx (setS vs i b)) rh e1 sb ?_, x, hq⟩
      refine ⟨_, Heap.get?_update_self _ I.at_ rfl, ?_⟩
      have hlen := hE.length
      have h1 := ((hE.pad (k := i + 1 - vs.length)).set (i := i) rb).ext x
      have e : sl.size = vs.length := by simpa using hlen
      simpa [setS, e] using h1
  · exact h.elim

noncomputable def TAttr (f : AV → AV → Sto → (Sto → Prop) → Prop) (o : ED) : AV → AS → (AS → Prop) → QX → Prop :=
  fun v st Q X => o st (fun vo st => f vo v st.σ (fun σ => Q ⟨st.m, σ⟩)) X
theorem SemG_attr {o : Expr} {n : Str} {pos : Pos} {od : ED} {f : AV → AV → Sto → (Sto → Prop) → Prop} (hf : SemU2 B R (fun o v => setAttr o n v) f) (ho : SemE B fc R o od) : SemG B fc R (.Attribute o n pos) (TAttr f od) := by
  intro env A st s av v Q X S r d
  rw [arm_assign_Attribute]
  refine wpAny_bind (wpAny_holding (wpAny_mono (ho env A st s _ X S d) ?_ fun _ _ e => e))
  refine fun v₁ s₁ => PV.el fun av₁ st₁ S₁ x₁ r₁ q₁ => ?_
  refine wpAny_bind (wpAny_standAt (wpAny_bind (wpAny_holding ?_)))
  refine wpAny_mono (hf A st₁.σ s₁ _ _ _ _ _ _ S₁.ao S₁.rh r₁ (RelV.ext x₁ _ r) q₁) ?_ fun _ _ e => e
  rintro _ s₃ ⟨σ₃, rh₃, x₃, q₃⟩
  have fin : PU B fc env A R st s Q () s₃ := ⟨⟨st₁.m, σ₃⟩, S₁.op rh₃ x₃, x₁.trans (S₁.extW x₃), q₃⟩
  exact fun Γ p hΓ => by rw [Sem.wp_release]; exact fin

theorem semIAdd : SemO2 B R (inplaceOp .Add) oAdd := by
  intro A σ s a v b u Q X ao rh ra rb h
  unfold oAdd at h
  split at h
  · obtain ⟨t, rfl⟩ := ra; obtain ⟨t', rfl⟩ := rb
    exact PySem.P.iadd_int (PO.int rh h)
  · exact h.elim
theorem semISub : SemO2 B R (inplaceOp .Sub) oSub := by
  intro A σ s a v b u Q X ao rh ra rb h
  unfold oSub at h
  split at h
  · obtain ⟨t, rfl⟩ := ra; obtain ⟨t', rfl⟩ := rb
    exact PySem.P.isub_int (PO.int rh h)
  · exact h.elim
noncomputable def SAugA (get : AV → OD) (op : AV → AV → OD) (put : AV → AV → Sto → (Sto → Prop) → Prop) (o a : ED) : SD := fun st Q X =>
  o st (fun vo st => get vo st.σ (fun vold σ => a ⟨st.m, σ⟩ (fun va st => op vold va st.σ (fun r σ => put vo r σ (fun σ => Q .next ⟨st.m, σ⟩)) (fun x σ => X x ⟨st.m, σ⟩)) X) (fun x σ => X x ⟨st.m, σ⟩)) X
theorem SemS_augA {o value : Expr} {n : Str} {tpos pos : Pos} {op : Operator} {get : AV → OD} {f : AV → AV → OD} {put : AV → AV → Sto → (Sto → Prop) → Prop} {od a : ED}
    (hg : SemO1 B R (fun v => getAttr v n true) get) (hf : SemO2 B R (inplaceOp op) f) (hp : SemU2 B R (fun o v => setAttr o n v) put) (ho : SemE B fc R o od) (ha : SemE B fc R value a) :
    SemS B fc R (.AugAssign (.Attribute o n tpos) op value pos) (SAugA get f put od a) := by
  intro env A st s Q X S d
  rw [arm_exec_AugAssign_2]
  refine wpAny_bind (wpAny_standAt (wpAny_bind (wpAny_mono (ho env A st s _ X S d) ?_ fun _ _ e => e)))
  refine fun v₁ s₁ => PV.el fun av₁ st₁ S₁ x₁ r₁ q₁ => ?_
  refine wpAny_bind (wpAny_holding (wpAny_bind (wpAny_standAt (wpAny_bind ?_))))
  refine wpAny_mono (hg A st₁.σ s₁ _ _ _ _ S₁.ao S₁.rh r₁ q₁) ?_ fun v s' h => (PX.op S₁ h).of x₁
  refine fun v₂ s₂ => PO.el fun av₂ σ₂ rh₂ x₂ r₂ q₂ => ?_
  have S₂ := S₁.op rh₂ x₂
  have y₂ := x₁.trans (S₁.extW x₂)
  refine wpAny_bind (wpAny_holding (wpAny_mono (ha env A _ s₂ _ X S₂ q₂) ?_ fun _ _ e => e.of y₂))
  refine fun v₃ s₃ => PV.el fun av₃ st₃ S₃ x₃ r₃ q₃ => ?_
  have y₃ := y₂.trans x₃
  refine wpAny_bind (wpAny_standAt (wpAny_operating ?_))
  refine wpAny_mono (hf A st₃.σ s₃ _ _ _ _ _ _ S₃.ao S₃.rh (RelV.ext x₃ _ r₂) r₃ q₃) ?_ fun v s' h => (PX.op S₃ h).of y₃
  refine fun v₄ s₄ => PO.el fun av₄ σ₄ rh₄ x₄ r₄ q₄ => ?_
  have S₄ := S₃.op rh₄ x₄
  refine wpAny_bind (wpAny_standAt (wpAny_bind (wpAny_holding ?_)))
  refine wpAny_mono (hp A σ₄ s₄ _ _ _ _ _ _ S₄.ao S₄.rh (RelV.ext x₄ _ (RelV.ext x₃ _ (RelV.ext x₂ _ r₁))) r₄ q₄) ?_ fun _ _ e => e
  rintro _ s₅ ⟨σ₅, rh₅, x₅, q₅⟩
  have fin : PF B fc env A R st s Q .next s₅ := ⟨.next, ⟨st₃.m, σ₅⟩, S₄.op rh₅ x₅, (y₃.trans (S₃.extW x₄)).trans (S₄.extW x₅), rfl, q₅⟩
  exact wpAny_bind (fun Γ p hΓ => by rw [Sem.wp_release]; exact wpAny_pure fin)
end
end Mine
-- MjT
namespace Mine

noncomputable def relN (names outer : List (Str × NameKind)) : List (Str × NameKind) := names.map fun (n, k) => if (k == NameKind.free && outer.lookup n == some .cell) then (n, .cell) else (n, k)
noncomputable def CompN (g : AV → AS → (AS → Prop) → QX → Prop) (t : BD) (e : ED) (chk : Sto → Prop) (fin : List AV → Sto → Prop) : List AV → List AV → List (Option AV) → Sto → Prop
  | [], acc, m, σ => chk σ ∧ fin acc σ
  | x :: xs, acc, m, σ => chk σ ∧ g x ⟨m, σ⟩ (fun st => t st (fun b st => (b = true → e st (fun y st => CompN g t e chk fin xs (acc ++ [y]) st.m st.σ) (fun _ _ => False)) ∧ (b = false → CompN g t e chk fin xs acc st.m st.σ)) (fun _ _ => False)) (fun _ _ => False)

section
variable {B : Bs} {fc : FC} {R R' : Rm} {env : Env} {A : Around}

noncomputable def SemIf (B : Bs) (fc : FC) (R : Rm) (ifs : List Expr) (t : BD) : Prop :=
  ∀ env A st s Q X, St B fc env A R st s → t st Q X → wpAny B.M A (forIn ifs true fun c r => if r = true then do let ok ← isTrue c env (eval c env); pure (ForInStep.yield ok) else pure (ForInStep.yield r)) (PB B fc env A R st s Q) (PX B fc env A R st s X) s
theorem SemIf_nil : SemIf B fc R [] (BAll []) := by
  intro env A st s Q X S d
  exact wpAny_tests_nil ⟨st, S, S.refl, d⟩
theorem SemIf_one {c : Expr} {t : BD} (h : SemB B fc R c t) : SemIf B fc R [c] t := by
  intro env A st s Q X S d
  exact wpAny_tests_one (h env A st s Q X S d)

theorem St.youngL {D : Addr} {st : AS} {s s' : Shared} (S : St B fc env A R st s) (rh : RH B st.σ s') (x : Ext (· = D) st.σ s st.σ s') (hD : ∃ o, s.heap.get? D = some o ∧ (∀ es n, o.data ≠ .dict es n) ∧ (∀ v, o.data ≠ .cell v) ∧ (∀ vs, o.data ≠ .fields vs)) : St B fc env A R st s' := by
  obtain ⟨oD, eD, d1, d2, d3⟩ := hD
  refine ⟨rh, ⟨S.rf.len, ?_, S.rf.nsN, fun i y k hi hkk => ?_⟩, S.ao.ext x (fun b hp ⟨env', L, hm, hf, e⟩ => ?_) (fun b hb q => ?_), S.eo, S.fr⟩
  · obtain ⟨mm, n, h⟩ := S.rf.ns
    refine ⟨mm, Ns.kept n fun o e => x.keep _ o S.rf.nsN.1 ?_ e, fun i x' hi => RelO.ext x (h i x' hi)⟩
    obtain ⟨o', es, ep, e', d', _⟩ := n
    rintro rfl
    rw [eD] at e'; cases e'; exact d1 _ _ d'
  · obtain ⟨c, ov, h1, ⟨o', e', d'⟩, h3, h4, h5⟩ := S.rf.cell i y k hi hkk
    have q := x.stays h4 (by rintro rfl; rw [eD] at e'; cases e'; exact d2 _ d') e' (fun _ _ z => by rw [d'] at z; cases z)
    exact ⟨c, ov, h1, ⟨o', q.1, d'⟩, RelO.ext x h3, h4, h5⟩
  · obtain ⟨l, h1, h2, h3⟩ := S.ao.frames
    rw [h1] at hm
    obtain ⟨_, o, es, n, ho', hd⟩ := h3 env' hm _ hf
    subst e
    have : L = D := hp
    subst this
    rw [eD] at ho'; cases ho'; exact absurd hd (d1 _ _)
  · have : b = D := hb
    subst this
    rcases S.ao.handled with ⟨h, _⟩ | ⟨e, _, o, vs, _, _, h1, h2, h3, _⟩
    · rw [h] at q; cases q
    · rw [h1] at q; cases q; rw [eD] at h2; cases h2; exact d3 _ h3

structure CompEnd (B : Bs) (σ₀ : Sto) (s₀ s' : Shared) (D C : Addr) (σ' : Sto) (acc : List AV) : Prop where
  rh : RH B σ' s'
  ext : Ext NoW σ₀ s₀ σ' s'
  lst : ∃ ys n, s'.heap.get? D = some (listO ys n) ∧ RelVs σ' s'.heap acc ys
  dn : σ' D = Option.none
  dz : s₀.heap.objs.size ≤ D
  ns : ∃ m, s'.heap.Ns C m
  cn : σ' C = Option.none
  cz : s₀.heap.objs.size ≤ C

theorem comp_loop {fc' : FC} {cenv : Env} {elt target iter : Expr} {ifs : List Expr} {scope : Scope} {pos : Pos} {g : AV → AS → (AS → Prop) → QX → Prop} {t : BD} {e : ED} {chk : Sto → Prop} {fin : List AV → Sto → Prop} {I D : Addr} {σ₀ : Sto} {s₀ s₁ : Shared}
    {av : AV} {v₀ : Value} {xs : List AV} {Inv : Nat → Heap → Prop} {m₁ : List (Option AV)} {σ₁ : Sto} {RR : Result → Shared → Prop}
    (rh₀ : B.h₀.objs.size ≤ s₀.heap.objs.size) (hg : SemG B fc' R target g) (ht : SemIf B fc' R ifs t) (he : SemE B fc' R elt e) (IT : Itr B A R (isTupT target) I av v₀ xs chk Inv) (hxs : xs.length < 1000)
    (hIz : s₀.heap.objs.size ≤ I) (hDz : s₀.heap.objs.size ≤ D) (hCz : s₀.heap.objs.size ≤ cenv.locals) (hW : ∀ b, Wf fc' cenv b → s₀.heap.objs.size ≤ b) (hID : I ≠ D) (hhI : A.handled ≠ some (.ref I))
    (S : St B fc' cenv A R ⟨m₁, σ₁⟩ s₁) (x : Ext NoW σ₀ s₀ σ₁ s₁) (rv : RelV σ₁ s₁.heap av v₀) (hI : σ₁ I = Option.none) (hD : σ₁ D = Option.none) (hlist : s₁.heap.get? D = some (listO [] 0)) (inv : Inv 0 s₁.heap)
    (d : CompN g t e chk fin xs [] m₁ σ₁) (hfin : ∀ s' σ' acc, CompEnd B σ₀ s₀ s' D cenv.locals σ' acc → acc.length < 1000 → fin acc σ' → RR (.ok .next) s') :
    codeAny B.M A (.compLoop (.ListComp elt [⟨target, iter, ifs, 0⟩] scope pos) 0 (.ref I) (.ref D) cenv) RR s₁ := by
  have hN : B.h₀.objs.size ≤ I := Nat.le_trans rh₀ hIz
  refine codeAny_loop rfl (fun k s' => ∃ j st acc ys n, St B fc' cenv A R st s' ∧ RelV st.σ s'.heap av v₀ ∧ Ext NoW σ₀ s₀ st.σ s' ∧ st.σ I = Option.none ∧ Inv j s'.heap ∧ k = xs.length - j ∧ j ≤ xs.length ∧
    s'.heap.get? D = some (listO ys n) ∧ st.σ D = Option.none ∧ RelVs st.σ s'.heap acc ys ∧ acc.length ≤ j ∧ CompN g t e chk fin (xs.drop j) acc st.m st.σ) ?_ xs.length ⟨0, _, [], [], 0, S, rv, x, hI, inv, rfl, Nat.zero_le _, hlist, hD, rfl, Nat.le_refl _, d⟩
  rintro k s₃ ⟨j, st₃, acc, ys, n, S₃, rv₃, x₃, hI₃, inv₃, rfl, hj, hl₃, hD₃, ra₃, hacc, q₃⟩
  show wpAny _ A ((compTurn (.ListComp elt [⟨target, iter, ifs, 0⟩] scope pos) 0 (.ref I) (.ref D) cenv).onRaise (fun x => do noteFrame x cenv; theTreesLotGoes x)) _ _ s₃
  refine wpAny_noted ?_
  rw [compTurn_list]
  refine wpAny_bind (wpAny_standAt (wpAny_bind ?_))
  have hIthere : ∃ o vs, s₃.heap.get? I = some o ∧ o.data = .fields vs := by obtain ⟨o, vs, e, d, _⟩ := IT.there j _ inv₃; exact ⟨o, vs, e, d⟩
  have bad : ∀ {st : AS} {s : Shared} {x : Prop} {e : Value} {s' : Shared}, PX B fc' cenv A R st s (fun _ _ => False) e s' → x := fun h => by obtain ⟨_, _, _, _, _, hf⟩ := h; exact hf.elim
  cases hd : xs[j]? with
  | none =>
    have hlen : xs.length ≤ j := List.getElem?_eq_none_iff.mp hd
    rw [List.drop_eq_nil_of_le hlen] at q₃
    refine IT.done j st₃.σ s₃ _ _ S₃.ao S₃.rh rv₃ hI₃ hN q₃.1 inv₃ hlen fun s₄ rh₄ x₄ => ?_
    have S₄ := S₃.young rh₄ x₄ hIthere hhI
    refine wpAny_pure (hfin s₄ st₃.σ acc ⟨rh₄, x₃.transX x₄ fun b hb => hb ▸ hIz, ⟨ys, n, ?_, RelVs.ext x₄ _ ra₃⟩, hD₃, hDz, ?_, S₄.rf.nsN.1, hCz⟩ (by omega) q₃.2)
    · exact (x₄.stays hD₃ (fun z => hID z.symm) hl₃ (fun _ _ z => by simp [listO] at z)).1
    · obtain ⟨mm, hn, _⟩ := S₄.rf.ns; exact ⟨mm, hn⟩
  | some x =>
    have hjl : j < xs.length := (List.getElem?_eq_some_iff.mp hd).1
    rw [List.drop_eq_getElem_cons hjl] at q₃
    have hx : xs[j] = x := (List.getElem?_eq_some_iff.mp hd).2
    rw [hx] at q₃
    refine IT.item j x st₃.σ s₃ _ _ S₃.ao S₃.rh rv₃ hI₃ hN q₃.1 inv₃ hd fun v s₄ rh₄ x₄ hI₄ rv own => ?_
    refine wpAny_bind (own target _ _ rfl fun s₅ rh₅ x₅ inv₅ => ?_)
    have S₄ := S₃.young rh₄ x₄ hIthere hhI
    have S₅ := S₄.young rh₅ x₅ hI₄ hhI
    have y₅ := (x₃.transX x₄ fun b hb => hb ▸ hIz).transX x₅ fun b hb => hb ▸ hIz
    have l₅ : s₅.heap.get? D = some (listO ys n) := (x₅.stays hD₃ (fun z => hID z.symm) (x₄.stays hD₃ (fun z => hID z.symm) hl₃ (fun _ _ z => by simp [listO] at z)).1 (fun _ _ z => by simp [listO] at z)).1
    have ra₅ := RelVs.ext x₅ _ (RelVs.ext x₄ _ ra₃)
    obtain ⟨oI, vI, eI, dI, nI⟩ := IT.there _ _ inv₅
    have notW : ∀ {b o}, s₅.heap.get? b = some o → (∀ es n, o.data ≠ .dict es n) → (∀ v, o.data ≠ .cell v) → ¬ Wf fc' cenv b := fun {b o} eb hb hb' hw => by
      rcases hw with rfl | ⟨i, y, hi, hc⟩
      · obtain ⟨mm, ⟨o', es, ep, e', d', _⟩, _⟩ := S₅.rf.ns
        rw [eb] at e'; cases e'; exact hb _ _ d'
      · obtain ⟨c, ov, h1, ⟨o', e', d'⟩, _⟩ := S₅.rf.cell i y .own hi (by decide)
        rw [hc] at h1; cases h1
        rw [eb] at e'; cases e'; exact hb' _ d'
    have nWI := notW eI (fun es n z => by rw [dI] at z; cases z) (fun v z => by rw [dI] at z; cases z)
    have nWD := notW l₅ (fun es n z => by simp [listO] at z) (fun v z => by simp [listO] at z)
    have rvv₅ := RelV.ext x₅ _ (RelV.ext x₄ _ rv₃)
    refine wpAny_bind (wpAny_mono (hg cenv A st₃ s₅ x v _ _ S₅ (RelV.ext x₅ _ rv) q₃.2) ?_ fun e s' h => bad h)
    refine fun _ s₆ => PU.el fun st₆ S₆ x₆ q₆ => ?_
    refine wpAny_bind (wpAny_mono (ht cenv A st₆ s₆ _ _ S₆ q₆) ?_ fun e s' h => bad h)
    refine fun ok s₇ => PB.el fun st₇ S₇ x₇ qq => ?_
    obtain ⟨q₇, q₇'⟩ := qq
    have x57 := x₆.trans x₇
    cases ok with
    | false =>
      have kI := x57.stays hI₃ nWI eI (fun es n z => by rw [dI] at z; cases z)
      have kD := x57.stays hD₃ nWD l₅ (fun es n z => by simp [listO] at z)
      exact wpAny_pure ⟨rfl, xs.length - (j + 1), by omega, j + 1, st₇, acc, ys, n, S₇, RelV.ext x57 _ rvv₅, y₅.transX x57 hW, kI.2,
        IT.frame _ _ _ inv₅ (fun o' e' => by rw [eI] at e'; cases e'; exact kI.1), rfl, hjl, kD.1, kD.2, RelVs.ext x57 _ ra₅, by omega, q₇' rfl⟩
    | true =>
      refine wpAny_bind (wpAny_bind (wpAny_mono (he cenv A st₇ s₇ _ _ S₇ (q₇ rfl)) ?_ fun e s' h => bad h))
      refine fun y s₈ => PV.el fun ay st₈ S₈ x₈ ry q₈ => ?_
      have x58 := x57.trans x₈
      have kI := x58.stays hI₃ nWI eI (fun es n z => by rw [dI] at z; cases z)
      have kD := x58.stays hD₃ nWD l₅ (fun es n z => by simp [listO] at z)
      have ra₈ := RelVs.ext x58 _ ra₅
      have hlen := ra₈.length
      refine wpAny_bind (call_meets (T := "list") PySem.F.slot_list_append ⟨_, kD.1, rfl⟩ PySem.F.entry_list_append (PySem.F.args_list_append_2 _ _) (AutoListH.list_append_list_val_0 D ys.toArray n y (by rw [sizeLine_eq]; simp; omega)) ⟨kD.1, ?_⟩)
      have sb := Heap.SameBut.update s₈.heap D (Obj.mapSeq fun xs => xs.push y)
      have x₉ : Ext (· = D) st₈.σ s₈ st₈.σ { s₈ with heap := s₈.heap.update D (Obj.mapSeq fun xs => xs.push y), toks := s₈.toks } :=
        ⟨fun b o h1 h2 e => ⟨o, (sb.2 b h2).trans e, .refl o⟩, fun _ h1 h2 => absurd h1 h2, Nat.le_of_eq sb.1.symm, fun a o ha e => by have : a = D := ha; subst this; rw [kD.1] at e; cases e; exact listO_imm _ _⟩
      have hDN : B.h₀.objs.size ≤ D := Nat.le_trans rh₀ hDz
      have rh₉ := S₈.rh.still x₉ (fun a ob ha e => (sb.2 a (fun z => ha (z ▸ kD.2))).trans e) (fun b o hb e => (sb.2 b (fun z => absurd (Heap.lt_size hb) (by subst z; exact Nat.not_lt.mpr hDN))).trans e) rfl rfl
      have S₉ := S₈.youngL rh₉ x₉ ⟨_, kD.1, fun es n z => by simp [listO] at z, fun v z => by simp [listO] at z, fun vs z => by simp [listO] at z⟩
      have q : Obj.mapSeq (fun xs => xs.push y) (listO ys n) = listO (ys ++ [y]) (if (ys ++ [y]).toArray.size == ys.toArray.size then n else n + 1) := by
        show (⟨_, _, .seq (ys.toArray.push y) _, _⟩ : Obj) = _
        simp [listO]
      exact wpAny_pure (wpAny_pure ⟨rfl, xs.length - (j + 1), by omega, j + 1, st₈, acc ++ [ay], ys ++ [y], _, S₉, RelV.ext x₉ _ (RelV.ext x58 _ rvv₅), (y₅.transX x58 hW).transX x₉ (fun b hb => hb ▸ hDz), kI.2,
        IT.frame _ _ _ inv₅ (fun o' e' => by rw [eI] at e'; cases e'; exact (sb.2 I hID).trans kI.1), rfl, hjl,
        (Heap.get?_update_self _ kD.1 (by rw [q]; rfl)).trans (by rw [q]), kD.2, RelVs.ext x₉ _ (ra₈.append ⟨y, [], rfl, ry, rfl⟩), by simp; omega, q₈⟩)
end
end Mine
-- MjU
namespace Mine

inductive CapAt (sl : List (Str × SK)) : List (Str × NameKind) → List (Str × SK) → List Nat → Prop
  | nil : CapAt sl [] [] []
  | cap {n : Str} {i : Nat} {r : List (Str × NameKind)} {cs : List (Str × SK)} {is : List Nat} : SlotAt sl i n .cap → CapAt sl r cs is → CapAt sl ((n, .free) :: r) ((n, .cap) :: cs) (i :: is)
  | own {n : Str} {i : Nat} {r : List (Str × NameKind)} {cs : List (Str × SK)} {is : List Nat} : SlotAt sl i n .own → CapAt sl r cs is → CapAt sl ((n, .free) :: r) ((n, .cap) :: cs) (i :: is)
  | loc {n : Str} {r : List (Str × NameKind)} {cs : List (Str × SK)} {is : List Nat} : CapAt sl r cs is → CapAt sl ((n, .local) :: r) cs is
  | glob {n : Str} {r : List (Str × NameKind)} {cs : List (Str × SK)} {is : List Nat} : CapAt sl r cs is → CapAt sl ((n, .globalImplicit) :: r) cs is

theorem CapAt.free {sl : List (Str × SK)} {r : List (Str × NameKind)} {cs : List (Str × SK)} {is : List Nat} (h : CapAt sl r cs is) : ∀ n, (n, NameKind.free) ∈ r → ∃ (i : Nat) (k : SK), sl[i]? = some (n, k) ∧ k ≠ SK.loc := by
  induction h with
  | nil => intro n hn; cases hn
  | cap hs _ ih => intro n hn; cases hn with
    | head => exact ⟨_, _, hs.get, by decide⟩
    | tail _ h => exact ih n h
  | own hs _ ih => intro n hn; cases hn with
    | head => exact ⟨_, _, hs.get, by decide⟩
    | tail _ h => exact ih n h
  | loc _ ih => intro n hn; cases hn with | tail _ h => exact ih n h
  | glob _ ih => intro n hn; cases hn with | tail _ h => exact ih n h
theorem CapAt.noCell {sl : List (Str × SK)} {r : List (Str × NameKind)} {cs : List (Str × SK)} {is : List Nat} (h : CapAt sl r cs is) : ∀ x ∈ r, x.2 ≠ NameKind.cell := by
  induction h with
  | nil => intro n hn; cases hn
  | cap hs _ ih => intro n hn; cases hn with
    | head => exact fun z => by cases z
    | tail _ h => exact ih n h
  | own hs _ ih => intro n hn; cases hn with
    | head => exact fun z => by cases z
    | tail _ h => exact ih n h
  | loc _ ih => intro n hn; cases hn with
    | head => exact fun z => by cases z
    | tail _ h => exact ih n h
  | glob _ ih => intro n hn; cases hn with
    | head => exact fun z => by cases z
    | tail _ h => exact ih n h
theorem CapAt.slot {sl : List (Str × SK)} {r : List (Str × NameKind)} {cs : List (Str × SK)} {is : List Nat} (h : CapAt sl r cs is) : is.length = cs.length ∧ ∀ (i : Nat) (n : Str) (k : SK), cs[i]? = some (n, k) → k = SK.cap ∧ (n, NameKind.free) ∈ r ∧ ∃ (j : Nat) (k' : SK), is[i]? = some j ∧ sl[j]? = some (n, k') ∧ k' ≠ SK.loc := by
  induction h with
  | nil => exact ⟨rfl, fun i n k hi => by simp at hi⟩
  | cap hs _ ih =>
    refine ⟨by simp [ih.1], fun i n k hi => ?_⟩
    cases i with
    | zero => simp at hi; obtain ⟨rfl, rfl⟩ := hi; exact ⟨rfl, .head _, _, _, rfl, hs.get, by decide⟩
    | succ i => simp at hi; obtain ⟨h1, h2, j, k', h3, h4⟩ := ih.2 i n k hi; exact ⟨h1, .tail _ h2, j, k', by simpa using h3, h4⟩
  | own hs _ ih =>
    refine ⟨by simp [ih.1], fun i n k hi => ?_⟩
    cases i with
    | zero => simp at hi; obtain ⟨rfl, rfl⟩ := hi; exact ⟨rfl, .head _, _, _, rfl, hs.get, by decide⟩
    | succ i => simp at hi; obtain ⟨h1, h2, j, k', h3, h4⟩ := ih.2 i n k hi; exact ⟨h1, .tail _ h2, j, k', by simpa using h3, h4⟩
  | loc _ ih => exact ⟨ih.1, fun i n k hi => by obtain ⟨h1, h2, h3⟩ := ih.2 i n k hi; exact ⟨h1, .tail _ h2, h3⟩⟩
  | glob _ ih => exact ⟨ih.1, fun i n k hi => by obtain ⟨h1, h2, h3⟩ := ih.2 i n k hi; exact ⟨h1, .tail _ h2, h3⟩⟩

noncomputable def clos (env : Env) : List (Str × NameKind) → List (Str × Addr) → List (Str × Addr)
  | [], cs => cs
  | (n, k) :: r, cs => if (k == .free) = true then clos env r ((n, (env.cells.lookup n).getD 0) :: cs) else clos env r cs
theorem clos_go (env : Env) : ∀ (names : List (Str × NameKind)) (cs : List (Str × Addr)), (∀ n, (n, NameKind.free) ∈ names → ∃ c, env.cells.lookup n = some c) →
    (forIn names cs fun (p : Str × NameKind) (r : List (Str × Addr)) => (if (p.2 == .free) = true then do let a ← cellOf env p.1; pure (ForInStep.yield ((p.1, a) :: r)) else pure (ForInStep.yield r) : Sem _)) = pure (clos env names cs)
  | [], cs, _ => rfl
  | (n, k) :: r, cs, h => by
    rw [List.forIn_cons]
    have ih := fun cs => clos_go env r cs fun n hn => h n (.tail _ hn)
    cases hk : (k == NameKind.free) with
    | true =>
      have hk' : k = .free := by simpa using hk
      subst hk'
      obtain ⟨c, hc⟩ := h n (.head _)
      simp only [hk, if_true]
      have hcell : cellOf env n = pure c := by unfold cellOf; rw [hc]
      rw [hcell]
      show (forIn r ((n, c) :: cs) _ : Sem _) = _
      rw [ih]
      conv => rhs; unfold clos
      simp [hc]
    | false =>
      simp only [hk, Bool.false_eq_true, if_false]
      show (forIn r cs _ : Sem _) = _
      rw [ih]
      conv => rhs; unfold clos
      simp [hk]
theorem clos_eq {env : Env} {scope : Scope} (h : ∀ n, (n, NameKind.free) ∈ scope.names → ∃ c, env.cells.lookup n = some c) : closureFor scope env = pure (clos env scope.names []) := by
  unfold closureFor
  have := clos_go env scope.names [] h
  show (forIn scope.names [] _ >>= fun r => pure r : Sem _) = _
  have e : ∀ (t : Sem (List (Str × Addr))) (a : List (Str × Addr)), t = pure a → (t >>= fun r => pure r) = pure a := fun t a h => by rw [h]; rfl
  exact e _ _ this
theorem clos_mem (env : Env) : ∀ (names : List (Str × NameKind)) (cs : List (Str × Addr)), (∀ n, (n, NameKind.free) ∈ names → ∃ c, env.cells.lookup n = some c) → (∀ n c, cs.lookup n = some c → env.cells.lookup n = some c) →
    (∀ n c, (clos env names cs).lookup n = some c → env.cells.lookup n = some c) ∧ (∀ n, ((n, NameKind.free) ∈ names ∨ (cs.lookup n).isSome) → ((clos env names cs).lookup n).isSome)
  | [], cs, _, hc => ⟨hc, fun n hn => by rcases hn with hn | hn; cases hn; exact hn⟩
  | (n, k) :: r, cs, h, hc => by
    unfold clos
    cases hk : (k == NameKind.free) with
    | true =>
      have hk' : k = .free := by simpa using hk
      subst hk'
      obtain ⟨c, hcn⟩ := h n (.head _)
      simp only [if_true]
      have ih := clos_mem env r ((n, (env.cells.lookup n).getD 0) :: cs) (fun n hn => h n (.tail _ hn)) (fun y d hy => by
        rw [List.lookup_cons] at hy
        split at hy
        · rename_i q
          have : y = n := by simpa using q
          subst this
          rw [hcn] at hy ⊢; exact hy
        · exact hc y d hy)
      refine ⟨ih.1, fun y hy => ih.2 y ?_⟩
      rcases hy with hy | hy
      · cases hy with
        | head => right; simp [List.lookup_cons]
        | tail _ hy => left; exact hy
      · right
        rw [List.lookup_cons]
        split
        · rfl
        · exact hy
    | false =>
      simp only [Bool.false_eq_true, if_false]
      have ih := clos_mem env r cs (fun n hn => h n (.tail _ hn)) hc
      refine ⟨ih.1, fun y hy => ih.2 y ?_⟩
      rcases hy with hy | hy
      · cases hy with
        | head => simp at hk
        | tail _ hy => left; exact hy
      · right; exact hy

section
variable {B : Bs} {fc : FC} {R R' : Rm} {env : Env} {A : Around}

theorem relabel_names {scope : Scope} (eo : EnvOk fc env) : (relabel scope env).names = relN scope.names fc.names := by
  unfold relabel relN
  simp only [eo.kind, eo.kindOf]
  congr 1
  funext ⟨n, k⟩
  simp

theorem lget_rep : ∀ (n : Nat) (l : List (Option AV)) (i : Nat), i < n → lget (List.replicate n none ++ l) i = none
  | 0, _, i, h => by omega
  | n + 1, l, 0, _ => rfl
  | n + 1, l, i + 1, h => lget_rep n l i (by omega)
theorem comp_frame {scope : Scope} {ts : List Str} {cs : List (Str × SK)} {is : List Nat} {st : AS} {s s' : Shared} {C : Addr} {cl : List (Str × Addr)} (S : St B fc env A R st s) (hcap : CapAt fc.slots scope.names cs is)
    (hcl : cl = clos env scope.names []) (hkind : scope.kind = .function) (hnd : ((ts.map (·, SK.loc) ++ cs).map (·.1)).Nodup)
    (rh : RH B st.σ s') (x : Ext NoW st.σ s st.σ s') (hns : s'.heap.Ns C (fun _ => none)) (hC : s.heap.objs.size ≤ C) :
    St B ⟨ts.map (·, SK.loc) ++ cs, relN scope.names fc.names⟩ (compEnvC scope cl C env) A R ⟨List.replicate ts.length none ++ is.map (lget st.m), st.σ⟩ s' ∧ (∀ b, Wf ⟨ts.map (·, SK.loc) ++ cs, relN scope.names fc.names⟩ (compEnvC scope cl C env) b → b = C) := by
  have S' := S.op rh x
  have hfree : ∀ n, (n, NameKind.free) ∈ scope.names → ∃ c, env.cells.lookup n = some c := fun n hn => by
    obtain ⟨i, k, h1, h2⟩ := hcap.free n hn
    obtain ⟨c, ov, h3, _⟩ := S.rf.cell i n k h1 h2
    exact ⟨c, h3⟩
  obtain ⟨m1, m2⟩ := clos_mem env scope.names [] hfree (fun n c h => by simp at h)
  have hσC : st.σ C = Option.none := S.rh.freshN hC
  have hslot : ∀ i y k, (ts.map (·, SK.loc) ++ cs)[i]? = some (y, k) → (k = .loc ∧ i < ts.length) ∨ (ts.length ≤ i ∧ cs[i - ts.length]? = some (y, k)) := fun i y k hi => by
    by_cases q : i < ts.length
    · rw [List.getElem?_append_left (by simpa using q)] at hi
      simp only [List.getElem?_map, Option.map_eq_some_iff] at hi
      obtain ⟨_, _, h⟩ := hi; cases h; exact .inl ⟨rfl, q⟩
    · rw [List.getElem?_append_right (by simpa using q)] at hi
      exact .inr ⟨by omega, by simpa using hi⟩
  have hcapS := hcap.slot
  refine ⟨⟨rh, ⟨?_, ⟨_, hns, fun i y hi => ?_⟩, ⟨hσC, Nat.le_trans S.rh.size hC⟩, fun i y k hi hk => ?_⟩, S.ao.noW x, ⟨?_, S.eo.glob, S.eo.blt, relabel_names S.eo, hnd, fun a b c h1 h2 => ?_⟩, S.fr⟩, fun b hb => ?_⟩
  · simp [hcapS.1]
  · rcases hslot i y .loc hi with ⟨_, q⟩ | ⟨_, q⟩
    · have : lget (List.replicate ts.length none ++ is.map (lget st.m)) i = none := lget_rep ts.length _ i q
      show RelO st.σ s'.heap (lget (List.replicate ts.length none ++ is.map (lget st.m)) i) none
      rw [this]; trivial
    · exact absurd (hcapS.2 _ _ _ q).1 (by decide)
  · rcases hslot i y k hi with ⟨q, _⟩ | ⟨q0, q⟩
    · exact absurd q hk
    · obtain ⟨rfl, hf, j, k', h1, h2, h3⟩ := hcapS.2 _ _ _ q
      obtain ⟨c, ov, g1, g2, g3, g4, g5⟩ := S'.rf.cell j y k' h2 h3
      have hl : cl.lookup y = some c := by
        have := m2 y (.inl hf)
        rw [← hcl] at this
        obtain ⟨d, hd⟩ := Option.isSome_iff_exists.mp this
        have := m1 y d (hcl ▸ hd)
        rw [g1] at this; cases this; exact hd
      refine ⟨c, ov, hl, g2, ?_, g4, g5⟩
      have : lget (List.replicate ts.length none ++ is.map (lget st.m)) i = lget st.m j := by
        have : ∀ (n : Nat) (l : List (Option AV)) (i : Nat), n ≤ i → lget (List.replicate n none ++ l) i = lget l (i - n) := fun n l => by
          induction n with
          | zero => intro i _; simp
          | succ n ih => intro i hi; cases i with
            | zero => omega
            | succ i => rw [List.replicate_succ, List.cons_append]; show lget _ i = _; rw [ih i (by omega)]; congr 1; omega
        rw [this _ _ _ q0]
        have : ∀ (l : List Nat) (i j : Nat), l[i]? = some j → lget (l.map (lget st.m)) i = lget st.m j := fun l => by
          induction l with
          | nil => intro i j h; simp at h
          | cons a l ih => intro i j h; cases i with
            | zero => simp at h; subst h; rfl
            | succ i => simp at h; exact ih i j h
        exact this _ _ _ h1
      show RelO st.σ s'.heap (lget _ i) ov
      rw [this]; exact g3
  · show (relabel scope env).kind = _
    exact hkind
  · have e1 := m1 a c (by rw [← hcl]; exact h1)
    have e2 := m1 b c (by rw [← hcl]; exact h2)
    exact S.eo.inj a b c e1 e2
  · rcases hb with z | ⟨i, y, hi, _⟩
    · exact z
    · rcases hslot i y .own hi with ⟨q, _⟩ | ⟨_, q⟩
      · cases q
      · exact absurd (hcapS.2 _ _ _ q).1 (by decide)
noncomputable def CompFr (B : Bs) (fc : FC) (R : Rm) (scope : Scope) (fc' : FC) (nl : Nat) (is : List Nat) : Prop :=
  ∀ env A st s, St B fc env A R st s → closureFor scope env = pure (clos env scope.names []) ∧
    ∀ (Q : Env → Shared → Prop) (E : Value → Shared → Prop), (∀ cenv C cl h' tk, cenv.locals = C → { cenv with scope := relabel scope env } = compEnvC scope cl C env →
      St B fc' (compEnvC scope cl C env) A R ⟨List.replicate nl none ++ is.map (lget st.m), st.σ⟩ { s with heap := h', toks := tk } → (∀ b o, s.heap.get? b = some o → h'.get? b = some o) → s.heap.objs.size ≤ h'.objs.size →
      s.heap.objs.size ≤ C → (∀ b, Wf fc' (compEnvC scope cl C env) b → s.heap.objs.size ≤ b) → Q cenv { s with heap := h', toks := tk }) →
      wpAny B.M A (newFunctionEnv scope env.globals (clos env scope.names []) [] env.qual none .none (some env)) Q E s
theorem CompFr.cap {scope : Scope} {ts : List Str} {cs : List (Str × SK)} {is : List Nat} (hcap : CapAt fc.slots scope.names cs is) (hkind : scope.kind = .function) (hnd : ((ts.map (·, SK.loc) ++ cs).map (·.1)).Nodup) :
    CompFr B fc R scope ⟨ts.map (·, SK.loc) ++ cs, relN scope.names fc.names⟩ ts.length is := by
  intro env A st s S
  have hfree : ∀ n, (n, NameKind.free) ∈ scope.names → ∃ c, env.cells.lookup n = some c := fun n hn => by
    obtain ⟨i, k, h1, h2⟩ := hcap.free n hn
    obtain ⟨c, ov, h3, _⟩ := S.rf.cell i n k h1 h2
    exact ⟨c, h3⟩
  refine ⟨clos_eq hfree, fun Q E hQ => wpAny_newFunctionEnv hcap.noCell (by intro y hy; simp at hy) (fun h₁ hns₁ hsb₁ => ?_) hkind⟩
  have old : ∀ b o, s.heap.get? b = some o → h₁.get? b = some o := fun b o e => (hsb₁.2 b (Nat.ne_of_lt (Heap.lt_size e))).trans (Heap.get?_push_of_some _ e)
  have hz : s.heap.objs.size ≤ h₁.objs.size := by rw [hsb₁.1, Heap.size_push]; exact Nat.le_succ _
  obtain ⟨rh₄, x₄⟩ := mvKeeps (t := s.toks + ([] : List (Str × Value)).length) S.rh old hz
  obtain ⟨S₄, hW⟩ := comp_frame (ts := ts) S hcap rfl hkind hnd rh₄ x₄ (by simpa using hns₁) (Nat.le_refl _)
  exact hQ _ _ _ _ _ rfl rfl S₄ old hz (Nat.le_refl _) fun b hb => Nat.le_of_eq (hW b hb).symm
end
end Mine
-- MjV
namespace Mine
section
variable {B : Bs} {fc : FC} {R R' : Rm} {env : Env} {A : Around}

theorem trackX {σ₀ σ : Sto} {s s' : Shared} {a : Addr} {ob : Obj} {o : AObj} (rh : RH B σ s') (x : Ext NoW σ₀ s σ s') (ha : s.heap.objs.size ≤ a) (hσ : σ a = Option.none) (hN : B.h₀.objs.size ≤ a) (e : s'.heap.get? a = some ob) (hi : ¬ ImmO ob)
    (r : RepO B σ s'.heap a o) : RH B (upd σ a o) s' ∧ Ext NoW σ₀ s (upd σ a o) s' := by
  refine ⟨⟨rh.old, rh.gens, rh.os, fun b o' hb => ?_, fun b hb => ?_, rh.size⟩, ⟨x.keep, fun b h1 h2 => ?_, x.size, x.nt⟩⟩
  · by_cases q : b = a
    · subst q; rw [upd_self] at hb; cases hb; exact r.chg (chg_upd e hi)
    · rw [upd_ne _ _ q] at hb; exact (rh.sto b o' hb).chg (chg_upd e hi)
  · by_cases q : b = a
    · subst q; exact hN
    · rw [upd_ne _ _ q] at hb; exact rh.new b hb
  · by_cases q : b = a
    · subst q; exact ha
    · rw [upd_ne _ _ q] at h2; exact x.dom b h1 h2
theorem comp_run {elt target iter : Expr} {ifs : List Expr} {scope : Scope} {pos : Pos} {fc' : FC} {nl : Nat} {is : List Nat} {g : AV → AS → (AS → Prop) → QX → Prop} {t : BD} {e : ED} {chk : Sto → Prop} {fin : List AV → Sto → Prop}
    {st : AS} {s : Shared} {av : AV} {v : Value} {xs : List AV} {use : Option (Value → Sem Unit)} {Q : Value → Shared → Prop} {E : Value → Shared → Prop}
    (hit : IterAll B R) (hfr : CompFr B fc R scope fc' nl is)
    (hg : SemG B fc' R target g) (ht : SemIf B fc' R ifs t) (he : SemE B fc' R elt e)
    (S : St B fc env A R st s) (r : RelV st.σ s.heap av v) (it : Items R.hm (isTupT target) st.σ av xs chk) (hav : ∀ d, av ≠ .vw true d) (hxs : xs.length < 1000)
    (d : CompN g t e chk fin xs [] (List.replicate nl none ++ is.map (lget st.m)) st.σ)
    (hfin : ∀ D C s' σ' acc, CompEnd B st.σ s s' D C σ' acc → C ≠ D → acc.length < 1000 → fin acc σ' → compPost B.M A E use Q (.ref D) C (.ok .next) s') :
    wpAny B.M A (pyIter v) (fun it s₂ => wpAny B.M A (newList []) (fun acc s₃ => wpAny B.M A (newFunctionEnv scope env.globals (clos env scope.names []) [] env.qual none .none (some env)) (fun cenv s₄ =>
      codeAny B.M A (.compStart (.ListComp elt [⟨target, iter, ifs, 0⟩] scope pos) 0 it acc { cenv with scope := relabel scope env }) (compPost B.M A E use Q acc cenv.locals) s₄) E s₃) E s₂) E s := by
  refine hit (isTupT target) A st.σ s av v xs chk _ _ S.ao S.rh r it fun I Inv s₂ IT self rh₂ x₂ hI hIn inv₂ => ?_
  refine wpAny_newObj_type ?_
  obtain ⟨rh₃, x₃⟩ := mvPush rh₂ { cls := .type "list", dict := none, data := .seq ([] : List Value).toArray } s₂.toks
  have S₂ := S.op rh₂ x₂
  have S₃ := S₂.op rh₃ x₃
  refine (hfr env A _ _ S₃).2 _ _ fun cenv C cl h₁ tk hc1 hc2 S₄ old hz hC hW => ?_
  have hC : s₂.heap.objs.size + 1 ≤ C := by rw [← Heap.size_push (h := s₂.heap)]; exact hC
  have hDC : s₂.heap.objs.size ≠ C := Nat.ne_of_lt hC
  have x₄ : Ext NoW st.σ s₂ st.σ { s₂ with heap := h₁, toks := tk } := (mvKeeps rh₂ (fun b o e => old b o (Heap.get?_push_of_some _ e)) (Nat.le_trans x₃.size hz)).2
  have hx0 := x₂.size
  have eI : I ≠ s₂.heap.objs.size := by
    obtain ⟨o, vs, e, _⟩ := IT.there 0 _ inv₂
    exact Nat.ne_of_lt (Heap.lt_size e)
  have inv₄ : Inv 0 h₁ := IT.frame _ _ _ inv₂ fun o e => old _ _ (Heap.get?_push_of_some _ e)
  have hl : h₁.get? s₂.heap.objs.size = some (listO [] 0) := old _ _ (Heap.get?_push_size _ rfl)
  have hsz : s₂.heap.objs.size ≤ (s₂.heap.push { cls := .type "list", dict := none, data := .seq ([] : List Value).toArray }).objs.size := x₃.size
  rw [hc2, hc1]
  have loop : codeAny B.M A (.compLoop (.ListComp elt [⟨target, iter, ifs, 0⟩] scope pos) 0 (.ref I) (.ref s₂.heap.objs.size) (compEnvC scope cl C env))
      (compPost B.M A E use Q (.ref s₂.heap.objs.size) C) { s₂ with heap := h₁, toks := tk } :=
    comp_loop (σ₀ := st.σ) (s₀ := s) S.rh.size hg ht he IT hxs hIn (by omega) (by show s.heap.objs.size ≤ C; omega) (fun b hb => Nat.le_trans hx0 (Nat.le_trans hsz (hW b hb))) eI (S.ao.older hIn) S₄ (x₂.trans x₄) (RelV.ext (x₂.trans x₄) _ r) hI (S.rh.freshN (by omega)) hl inv₄ d
      (fun s' σ' acc ce hlen hf => hfin _ _ s' σ' acc ce (Ne.symm hDC) hlen hf)
  exact codeAny_compStart_list loop (self hav 0 _ _ _ inv₄ loop)

theorem compEnd_po {σ₀ σ' : Sto} {s₀ s' : Shared} {D C : Addr} {acc : List AV} {h' : Heap} {Q : AV → Sto → Prop} (rh₀ : RH B σ₀ s₀) (ce : CompEnd B σ₀ s₀ s' D C σ' acc) (hCD : C ≠ D) (sb : Heap.SameBut C s'.heap h')
    (hq : ∀ a, σ' a = Option.none → Q (.ptr a) (upd σ' a (.list acc))) : PO B σ₀ s₀ Q (.ref D) { s' with heap := h' } := by
  obtain ⟨mm, hn⟩ := ce.ns
  obtain ⟨o, es, ep, eo, d, _⟩ := id hn
  have hN : B.h₀.objs.size ≤ C := Nat.le_trans rh₀.size ce.cz
  have x : Ext (· = C) σ' s' σ' { s' with heap := h' } := ⟨fun b o' h1 h2 e => ⟨o', (sb.2 b h2).trans e, .refl o'⟩, fun _ h1 h2 => absurd h1 h2, Nat.le_of_eq sb.1.symm, fun a o' ha e => by
    have : a = C := ha
    subst this; rw [eo] at e; cases e; exact fun hI => hI.data.1 _ _ d⟩
  have rh := ce.rh.still x (fun a ob ha e => (sb.2 a (fun z => ha (z ▸ ce.cn))).trans e) (fun b o hb e => (sb.2 b (fun z => absurd (Heap.lt_size hb) (by subst z; exact Nat.not_lt.mpr hN))).trans e) rfl rfl
  obtain ⟨ys, n, h1, h2⟩ := ce.lst
  have y := ce.ext.transX x (fun b hb => hb ▸ ce.cz)
  have e1 : h'.get? D = some (listO ys n) := (sb.2 D (Ne.symm hCD)).trans h1
  obtain ⟨k1, k2⟩ := trackX (o := .list acc) rh y ce.dz ce.dn (Nat.le_trans rh₀.size ce.dz) e1 (listO_imm _ _) ⟨ys, n, e1, RelVs.ext x _ h2⟩
  exact ⟨.ptr D, _, k1, k2, rfl, hq D ce.dn⟩

noncomputable def EComp (hm tp : Bool) (nl : Nat) (is : List Nat) (i : ED) (g : AV → AS → (AS → Prop) → QX → Prop) (t : BD) (e : ED) : ED := fun st Q X =>
  i st (fun v st => ∃ xs chk, (Items hm tp st.σ v xs chk ∧ (∀ d, v ≠ .vw true d) ∧ xs.length < 1000) ∧
    CompN g t e chk (fun acc σ => ∀ a, σ a = Option.none → Q (.ptr a) ⟨st.m, upd σ a (.list acc)⟩) xs [] (List.replicate nl none ++ is.map (lget st.m)) st.σ) X
theorem SemE_compF {elt target iter : Expr} {ifs : List Expr} {scope : Scope} {pos : Pos} {fc' : FC} {nl : Nat} {is : List Nat} {i : ED} {g : AV → AS → (AS → Prop) → QX → Prop} {t : BD} {e : ED}
    (hi : SemE B fc R iter i) (hfr : CompFr B fc R scope fc' nl is)
    (hg : SemG B fc' R target g) (ht : SemIf B fc' R ifs t) (he : SemE B fc' R elt e)
    (hit : IterAll B R) (hkind : scope.kind = .function) (hnames : ∀ x ∈ scope.names, x.2 = .local → scope.names.lookup x.1 = some .local) (hs : ∀ env x, foldedSetIterable iter env x = pure x) :
    SemE B fc R (.ListComp elt [⟨target, iter, ifs, 0⟩] scope pos) (EComp R.hm (isTupT target) nl is i g t e) := by
  intro env A st s Q X S d
  rw [eval_ListComp]
  refine wpAny_comprehension_free (cl := clos env scope.names []) (use := none) rfl (hs env) (hfr env A st s S).1 hkind hnames ?_
  refine wpAny_mono (hi env A st s _ X S d) ?_ fun _ _ e => e
  refine fun v₁ s₁ => PV.el fun av₁ st₁ S₁ x₁ r₁ qq => ?_
  obtain ⟨xs, chk, ⟨it₁, hav, hxs⟩, q₁⟩ := qq
  refine comp_run hit hfr hg ht he S₁ r₁ it₁ hav hxs q₁ ?_
  intro D C s' σ' acc ce hCD hlen hf
  obtain ⟨mm, hn⟩ := ce.ns
  exact ⟨mm, hn, fun h' sb => (PV.op S₁ (compEnd_po S₁.rh ce hCD sb hf)).of x₁⟩
theorem SemE_comp {elt target iter : Expr} {ifs : List Expr} {scope : Scope} {pos : Pos} {ts : List Str} {cs : List (Str × SK)} {is : List Nat} {i : ED} {g : AV → AS → (AS → Prop) → QX → Prop} {t : BD} {e : ED}
    (hi : SemE B fc R iter i) (hcap : CapAt fc.slots scope.names cs is)
    (hg : SemG B ⟨ts.map (·, SK.loc) ++ cs, relN scope.names fc.names⟩ R target g) (ht : SemIf B ⟨ts.map (·, SK.loc) ++ cs, relN scope.names fc.names⟩ R ifs t) (he : SemE B ⟨ts.map (·, SK.loc) ++ cs, relN scope.names fc.names⟩ R elt e)
    (hit : IterAll B R) (hkind : scope.kind = .function) (hnd : ((ts.map (·, SK.loc) ++ cs).map (·.1)).Nodup) (hnames : ∀ x ∈ scope.names, x.2 = .local → scope.names.lookup x.1 = some .local) (hs : ∀ env x, foldedSetIterable iter env x = pure x) :
    SemE B fc R (.ListComp elt [⟨target, iter, ifs, 0⟩] scope pos) (EComp R.hm (isTupT target) ts.length is i g t e) := SemE_compF hi (.cap hcap hkind hnd) hg ht he hit hkind hnames hs
end
end Mine
-- MjW
namespace Mine
section
variable {B : Bs} {fc : FC} {R R' : Rm} {env : Env} {A : Around}

theorem St.clean {st₀ st : AS} {s₀ s : Shared} {C : Addr} {m : Str → Option Value} {h' : Heap} (S₀ : St B fc env A R st₀ s₀) (S : St B fc env A R st s) (hC : s₀.heap.objs.size ≤ C) (hσ : st.σ C = Option.none) (hn : s.heap.Ns C m) (sb : Heap.SameBut C s.heap h') :
    St B fc env A R st { s with heap := h' } ∧ Ext (· = C) st.σ s st.σ { s with heap := h' } := by
  obtain ⟨o, es, ep, eo, d, _⟩ := id hn
  have hN : B.h₀.objs.size ≤ C := Nat.le_trans S₀.rh.size hC
  have x : Ext (· = C) st.σ s st.σ { s with heap := h' } := ⟨fun b o' h1 h2 e => ⟨o', (sb.2 b h2).trans e, .refl o'⟩, fun _ h1 h2 => absurd h1 h2, Nat.le_of_eq sb.1.symm, fun a o' ha e => by
    have : a = C := ha
    subst this; rw [eo] at e; cases e; exact fun hI => hI.data.1 _ _ d⟩
  have rh := S.rh.still x (fun a ob ha e => (sb.2 a (fun z => ha (z ▸ hσ))).trans e) (fun b o hb e => (sb.2 b (fun z => absurd (Heap.lt_size hb) (by subst z; exact Nat.not_lt.mpr hN))).trans e) rfl rfl
  have ne : ∀ {b o}, s₀.heap.get? b = some o → b ≠ C := fun {b o} e z => absurd (Heap.lt_size e) (by subst z; exact Nat.not_lt.mpr hC)
  refine ⟨⟨rh, ⟨S.rf.len, ?_, S.rf.nsN, fun i y k hi hkk => ?_⟩, S.ao.ext x (fun b hp ⟨env', L, hm, hf, e⟩ => ?_) (fun b hb q => ?_), S.eo, S.fr⟩, x⟩
  · obtain ⟨mm, n, h⟩ := S.rf.ns
    obtain ⟨_, ⟨_, _, _, e₀, _⟩, _⟩ := S₀.rf.ns
    exact ⟨mm, Ns.kept n fun o e => x.keep _ o S.rf.nsN.1 (ne e₀) e, fun i x' hi => RelO.ext x (h i x' hi)⟩
  · obtain ⟨c, ov, h1, ⟨o', e', d'⟩, h3, h4, h5⟩ := S.rf.cell i y k hi hkk
    obtain ⟨c₀, _, h1₀, ⟨_, e₀, _⟩, _⟩ := S₀.rf.cell i y k hi hkk
    rw [h1] at h1₀; cases h1₀
    have q := x.stays h4 (ne e₀) e' (fun _ _ z => by rw [d'] at z; cases z)
    exact ⟨c, ov, h1, ⟨o', q.1, d'⟩, RelO.ext x h3, h4, h5⟩
  · obtain ⟨l, h1, h2, h3⟩ := S₀.ao.frames
    rw [h1] at hm
    obtain ⟨_, o, es, n, ho', hd⟩ := h3 env' hm _ hf
    subst e
    exact absurd hp (ne ho')
  · have : b = C := hb
    subst this
    exact S₀.ao.older hC q

theorem swaps_true {elt : Expr} {gens : List Comprehension} {scope : Scope} {pos p : Pos} {x : Str} {line : Nat} (eo : EnvOk fc env) (hk : fc.names.lookup x = some .local) (hl : (p.line == pos.line) = true) (hn : (scope.names.any fun q => q.1 == x && (q.2 == .local || q.2 == .cell)) = false) :
    swapsWith (.ListComp elt gens scope pos) (some (.Name x p)) line env = pure true := by
  show (pure (env.blockKind == .function && env.kindOf x == some .local && p.line == pos.line && !(scope.names.any fun q => q.1 == x && (q.2 == .local || q.2 == .cell))) : Sem Bool) = _
  have hb : (env.blockKind == ScopeKind.function) = true := by unfold Env.blockKind; simp [eo.kind]
  have hkk : (env.kindOf x == some NameKind.local) = true := by rw [eo.kindOf, hk]; rfl
  rw [hb, hkk, hl, hn]; rfl
theorem SemS_asgCompF {x : Str} {p : Pos} {j : Nat} {elt target iter : Expr} {ifs : List Expr} {scope : Scope} {pos spos : Pos} {fc' : FC} {nl : Nat} {is : List Nat} {i : ED} {g : AV → AS → (AS → Prop) → QX → Prop} {t : BD} {e : ED}
    (hx : fc.names.lookup x = some .local) (hj : SlotAt fc.slots j x .loc) (hline : (p.line == pos.line) = true) (hfresh : (scope.names.any fun q => q.1 == x && (q.2 == .local || q.2 == .cell)) = false)
    (hi : SemE B fc R iter i) (hfr : CompFr B fc R scope fc' nl is)
    (hg : SemG B fc' R target g) (ht : SemIf B fc' R ifs t) (he : SemE B fc' R elt e)
    (hit : IterAll B R) (hkind : scope.kind = .function) (hnames : ∀ x ∈ scope.names, x.2 = .local → scope.names.lookup x.1 = some .local) (hs : ∀ env x, foldedSetIterable iter env x = pure x) :
    SemS B fc R (.Assign [.Name x p] (.ListComp elt [⟨target, iter, ifs, 0⟩] scope pos) spos) (SAsg (TSet j) (EComp R.hm (isTupT target) nl is i g t e)) := by
  intro env A st s Q X S d
  rw [exec_Assign]
  refine wpAny_bind (wpAny_standAt (wpAny_bind (wpAny_of_eq (swaps_true (line := spos.line) S.eo hx hline hfresh) ?_)))
  rw [if_pos rfl, arm_evalThenUse_ListComp]
  refine wpAny_bind (wpAny_bind (wpAny_comprehension_free (cl := clos env scope.names []) rfl (hs env) (hfr env A st s S).1 hkind hnames ?_))
  refine wpAny_mono (hi env A st s _ X S d) ?_ fun _ _ e => e
  refine fun v₁ s₁ => PV.el fun av₁ st₁ S₁ x₁ r₁ qq => ?_
  obtain ⟨xs, chk, ⟨it₁, hav, hxs⟩, q₁⟩ := qq
  refine comp_run hit hfr hg ht he S₁ r₁ it₁ hav hxs q₁ ?_
  intro D C s' σ' acc ce hCD hlen hf
  obtain ⟨mm, hn⟩ := ce.ns
  obtain ⟨ys, n, h1, h2⟩ := ce.lst
  obtain ⟨k1, k2⟩ := trackX (o := .list acc) ce.rh ce.ext ce.dz ce.dn (Nat.le_trans S₁.rh.size ce.dz) h1 (listO_imm _ _) ⟨ys, n, h1, h2⟩
  have S₂ := S₁.op k1 k2
  have y₂ := x₁.trans (S₁.extW k2)
  have hq := hf D ce.dn
  show wpAny B.M A (assignAll (.ref D) [assign (.Name x p) env]) _ _ s'
  refine wpAny_assign_Name (store_loc S₂ (av := .ptr D) rfl hx hj.get fun s₃ S₃ x₃ => ?_)
  have hCσ : (upd σ' D (.list acc)) C = Option.none := by rw [upd_ne _ _ hCD]; exact ce.cn
  have hn₃ : s₃.heap.Ns C mm := Ns.kept hn fun o e => x₃.keep C o hCσ (fun hw => ?_) e
  · refine ⟨mm, hn₃, fun h' sb => ?_⟩
    obtain ⟨S₄, x₄⟩ := S₁.clean S₃ ce.cz hCσ hn₃ sb
    refine wpAny_pure (wpAny_pure ⟨.next, _, S₄, ?_, rfl, hq⟩)
    exact (y₂.trans x₃).transX x₄ fun b hb => by have : b = C := hb; subst this; exact Nat.le_trans x₁.size ce.cz
  · rcases hw with z | ⟨i', y', hi', hc'⟩
    · obtain ⟨_, ⟨_, _, _, e₀, _⟩, _⟩ := S₁.rf.ns
      have := Heap.lt_size e₀
      rw [← z] at this
      exact absurd this (Nat.not_lt.mpr ce.cz)
    · obtain ⟨c₀, _, h1₀, ⟨_, e₀, _⟩, _⟩ := S₁.rf.cell i' y' .own hi' (by decide)
      rw [hc'] at h1₀; cases h1₀
      exact absurd (Heap.lt_size e₀) (Nat.not_lt.mpr ce.cz)
theorem SemS_asgComp {x : Str} {p : Pos} {j : Nat} {elt target iter : Expr} {ifs : List Expr} {scope : Scope} {pos spos : Pos} {ts : List Str} {cs : List (Str × SK)} {is : List Nat} {i : ED} {g : AV → AS → (AS → Prop) → QX → Prop} {t : BD} {e : ED}
    (hx : fc.names.lookup x = some .local) (hj : SlotAt fc.slots j x .loc) (hline : (p.line == pos.line) = true) (hfresh : (scope.names.any fun q => q.1 == x && (q.2 == .local || q.2 == .cell)) = false)
    (hi : SemE B fc R iter i) (hcap : CapAt fc.slots scope.names cs is)
    (hg : SemG B ⟨ts.map (·, SK.loc) ++ cs, relN scope.names fc.names⟩ R target g) (ht : SemIf B ⟨ts.map (·, SK.loc) ++ cs, relN scope.names fc.names⟩ R ifs t) (he : SemE B ⟨ts.map (·, SK.loc) ++ cs, relN scope.names fc.names⟩ R elt e)
    (hit : IterAll B R) (hkind : scope.kind = .function) (hnd : ((ts.map (·, SK.loc) ++ cs).map (·.1)).Nodup) (hnames : ∀ x ∈ scope.names, x.2 = .local → scope.names.lookup x.1 = some .local) (hs : ∀ env x, foldedSetIterable iter env x = pure x) :
    SemS B fc R (.Assign [.Name x p] (.ListComp elt [⟨target, iter, ifs, 0⟩] scope pos) spos) (SAsg (TSet j) (EComp R.hm (isTupT target) ts.length is i g t e)) := SemS_asgCompF hx hj hline hfresh hi (.cap hcap hkind hnd) hg ht he hit hkind hnames hs
end
end Mine
-- MjX
namespace Mine

theorem bindL_eq (kf : Str → Option NameKind) : ∀ (bs : List (Str × Value)) (m : Str → Option Value) (x : Str), kf x = some .local → bindL kf bs m x = ((bs.reverse.lookup x).or (m x))
  | [], m, x, _ => by simp [bindL]
  | (n, v) :: r, m, x, hx => by
    unfold bindL
    rw [bindL_eq kf r _ x hx, List.reverse_cons, List.lookup_append]
    by_cases q : x = n
    · subst q
      rw [if_pos hx]
      cases r.reverse.lookup x <;> simp [List.lookup]
    · have : ([(n, v)] : List (Str × Value)).lookup x = none := by simp [List.lookup, beq_eq_false_iff_ne.mpr q]
      rw [this]
      have e : (if kf n = some NameKind.local then fun y => if y = n then some v else m y else m) x = m x := by
        split
        · simp [q]
        · rfl
      rw [e]
      cases r.reverse.lookup x <;> rfl
theorem bindC_eq (kf : Str → Option NameKind) : ∀ (bs : List (Str × Value)) (m : Str → Option Value) (x : Str), kf x ≠ some .local → bindC kf bs m x = ((bs.reverse.lookup x).or (m x))
  | [], m, x, _ => by simp [bindC]
  | (n, v) :: r, m, x, hx => by
    unfold bindC
    rw [bindC_eq kf r _ x hx, List.reverse_cons, List.lookup_append]
    by_cases q : x = n
    · subst q
      rw [if_neg hx]
      cases r.reverse.lookup x <;> simp [List.lookup]
    · have : ([(n, v)] : List (Str × Value)).lookup x = none := by simp [List.lookup, beq_eq_false_iff_ne.mpr q]
      rw [this]
      have e : (if kf n = some NameKind.local then m else fun y => if y = n then some v else m y) x = m x := by
        split
        · rfl
        · simp [q]
      rw [e]
      cases r.reverse.lookup x <;> rfl
theorem cellsFrom_some : ∀ (names : List (Str × NameKind)) (n : Nat) (acc : List (Str × Addr)) (x : Str), ((x, NameKind.cell) ∈ names ∨ (acc.lookup x).isSome = true) → ((cellsFrom n names acc).lookup x).isSome = true
  | [], n, acc, x, h => by rcases h with h | h; cases h; exact h
  | (y, k) :: r, n, acc, x, h => by
    unfold cellsFrom
    split
    · refine cellsFrom_some r _ _ x ?_
      rcases h with h | h
      · cases h with
        | head => right; simp [List.lookup]
        | tail _ h => exact .inl h
      · right
        rw [List.lookup_cons]
        split
        · rfl
        · exact h
    · rename_i hk
      refine cellsFrom_some r _ _ x ?_
      rcases h with h | h
      · cases h with
        | head => exact absurd rfl hk
        | tail _ h => exact .inl h
      · exact .inr h
theorem mem_of_lookup {α : Type} : ∀ {l : List (Str × α)} {x : Str} {k : α}, l.lookup x = some k → (x, k) ∈ l
  | [], x, k, h => by simp at h
  | (y, j) :: l, x, k, h => by
    rw [List.lookup_cons] at h
    split at h
    · rename_i q
      have : x = y := by simpa using q
      subst this; cases h; exact .head _
    · exact .tail _ (mem_of_lookup h)
theorem pair_inj {α : Type} : ∀ {l : List (Str × α)} {x y : Str} {c : α}, l.Pairwise (fun a b => a.2 ≠ b.2) → (x, c) ∈ l → (y, c) ∈ l → x = y
  | p :: l, x, y, c, h, hx, hy => by
    obtain ⟨h1, h2⟩ := List.pairwise_cons.mp h
    cases hx with
    | head => cases hy with
      | head => rfl
      | tail _ hy => exact absurd rfl (h1 (y, c) hy)
    | tail _ hx => cases hy with
      | head => exact absurd rfl (h1 (x, c) hx)
      | tail _ hy => exact pair_inj h2 hx hy

section
variable {B : Bs} {fc : FC} {R R' : Rm} {env : Env} {A : Around}
noncomputable def slotsOk (names : List (Str × NameKind)) (sl : List (Str × SK)) : Bool := sl.all fun p => match p.2 with
  | .loc => names.lookup p.1 == some .local
  | .own => names.lookup p.1 == some .cell
  | .cap => false
theorem slotsOk_get {names : List (Str × NameKind)} {sl : List (Str × SK)} (h : slotsOk names sl = true) {i : Nat} {x : Str} {k : SK} (hi : sl[i]? = some (x, k)) : (k = .loc ∧ names.lookup x = some .local) ∨ (k = .own ∧ names.lookup x = some .cell) := by
  have := List.all_eq_true.mp h _ (List.mem_of_getElem? hi)
  cases k with
  | loc => exact .inl ⟨rfl, by simpa using this⟩
  | own => exact .inr ⟨rfl, by simpa using this⟩
  | cap => simp at this

noncomputable def Binds (B : Bs) (fd : FuncData) (ps : List Str) (avs bvs : List AV) : Prop :=
  ∀ (A : Around) (σ : Sto) (s : Shared) (vs : List Value) (Q : List (Str × Value) → Shared → Prop) (E : Value → Shared → Prop), RH B σ s → RelVs σ s.heap avs vs →
    (∀ ws s', RH B σ s' → Ext NoW σ s σ s' → RelVs σ s'.heap bvs ws → Q (ps.zip ws) s') → wpAny B.M A (bindArgs fd ⟨vs, []⟩) Q E s
theorem Binds.pure {fd : FuncData} {ps : List Str} {avs : List AV} (h : ∀ vs : List Value, vs.length = avs.length → bindArgs fd ⟨vs, []⟩ = Pure.pure (ps.zip vs)) : Binds B fd ps avs avs :=
  fun A σ s vs Q E rh r k => by rw [h vs r.length]; exact wpAny_pure (k vs s rh (Ext.refl _ _) r)

noncomputable def SemC (B : Bs) (R : Rm) (f : Value) (sp : List AV → OD) : Prop := ∀ A σ s as vs Q X, AOk B A R σ s → RH B σ s → RelVs σ s.heap as vs → sp as σ Q X →
  codeAny B.M A (.call f ⟨vs, []⟩) (fun r s' => match r with | .ok (.ret v) => PO B σ s Q v s' | .ok _ => False | .error e => PXo B σ s X e s') s
theorem SemC.on {f : Value} {sp : List AV → OD} (h : SemC B R f sp) : SemOn B R (fun vs => call f vs) sp := fun A σ s as vs Q X ao rh r q => wpAny_call (h A σ s as vs Q X ao rh r q)

theorem spec_fn {f : Addr} {fd : FuncData} {body : List Stmt} {ps ls : List (Str × SK)} {d : SD} {sp : List AV → OD} (F : FnOk B f fd body) (hfc : fc = ⟨ps ++ ls, fd.scope.names⟩)
    (hlv : R.lv = R'.lv + 1) (hhm : R.he = R'.he) (hb : SemSs B fc R' body d) (hnd : ((ps ++ ls).map (·.1)).Nodup) (hok : slotsOk fd.scope.names (ps ++ ls) = true)
    (hsp : ∀ avs σ Q X, sp avs σ Q X → ∃ bvs, Binds B fd (ps.map (·.1)) avs bvs ∧ bvs.length = ps.length ∧ d ⟨bvs.map some ++ List.replicate ls.length Option.none, σ⟩ (fun o st => ∃ σ', Sub σ' st.σ ∧ Q (outV o) σ') (fun x st => ∃ σ', Sub σ' st.σ ∧ X x σ')) :
    SemC B R (.ref f) sp := by
  intro A σ s₀ avs₀ vs₀ Q X ao₀ rh₀ r₀ hq
  obtain ⟨avs, hbind, hlen, hd⟩ := hsp avs₀ σ Q X hq
  obtain ⟨ob, hK, hfd⟩ := F.at_
  refine (codeAny_call_function (by have := ao₀.depth; unfold recursionLimit; omega) (rh₀.inK _ _ hK) hfd F.co F.gen F.body (codeRec_of rh₀.inK F.code) (hbind _ σ s₀ vs₀ _ _ rh₀ r₀ fun vs s rh x₀ r => ?_))
  have ao := ao₀.noW x₀
  have hvl : vs.length = ps.length := r.length.trans hlen
  have kindP : ∀ x ∈ (ps.map (·.1)).zip vs, fd.scope.names.lookup x.1 = some .local ∨ (fd.scope.names.lookup x.1 = some .cell ∧ ((cellsFrom (s.heap.objs.size + 1) fd.scope.names []).lookup x.1).isSome = true) := fun x hx => by
    obtain ⟨p, hp, e⟩ := List.mem_map.mp (mem_zip_fst hx)
    obtain ⟨i, hi⟩ := List.mem_iff_getElem?.mp hp
    have hi' : (ps ++ ls)[i]? = some (p.1, p.2) := by rw [List.getElem?_append_left (List.getElem?_eq_some_iff.mp hi).1]; exact hi
    rcases slotsOk_get hok hi' with ⟨_, h⟩ | ⟨_, h⟩
    · exact .inl (e ▸ h)
    · refine .inr ⟨e ▸ h, cellsFrom_some _ _ _ _ (.inl ?_)⟩
      exact mem_of_lookup (e ▸ h)
  rw [F.clo]
  refine wpAny_newFunctionEnv_cells F.kind kindP fun env he s₁ ic => ?_
  have he' : env = callEnvC fd s.heap.objs.size f := he
  subst he'
  refine ⟨rh.lim.keeps ic.toInCall.keep, codeAny_func ?_⟩
  have hkf : ∀ x, (callEnvC fd s.heap.objs.size f).kindOf x = fd.scope.names.lookup x := fun _ => rfl
  obtain ⟨⟨⟨h₁, tk, rfl⟩, hns, hk, hfr⟩, hcell, hap, hab⟩ := ic
  have hL0 : (callEnvC fd s.heap.objs.size f).locals = s.heap.objs.size := rfl
  have x₁ : Ext NoW σ s σ { s with heap := h₁, toks := tk } := by
    refine ⟨fun b o _ _ e => ⟨o, hk b o e, .refl o⟩, fun _ h1 h2 => absurd h1 h2, ?_, fun _ _ h => h.elim⟩
    exact Nat.le_of_lt hns.lt
  have rh₁ : RH B σ { s with heap := h₁, toks := tk } := rh.still x₁ (fun a ob _ e => hk a ob e) (fun b o _ e => hk b o e) rfl rfl
  have hL : σ s.heap.objs.size = Option.none := rh.freshN (Nat.le_refl _)
  have eo : EnvOk fc (callEnvC fd s.heap.objs.size f) := by
    subst hfc
    exact ⟨F.kind, F.glob, F.blt, rfl, hnd, fun x y c h1 h2 => pair_inj hap (mem_of_lookup h1) (mem_of_lookup h2)⟩
  have val : ∀ i x k, (ps ++ ls)[i]? = some (x, k) → RelO σ h₁ (lget (avs.map some ++ List.replicate ls.length Option.none) i) (((ps.map (·.1)).zip vs).reverse.lookup x) := fun i x k hi => by
    rw [lget_map_some]
    have hnd1 : (ps.map (·.1)).Nodup := by rw [List.map_append] at hnd; exact (List.nodup_append.mp hnd).1
    by_cases q : i < ps.length
    · have hpx : (ps.map (·.1))[i]? = some x := by rw [List.getElem?_append_left q] at hi; simp [hi]
      obtain ⟨av, hav⟩ : ∃ av, avs[i]? = some av := ⟨avs[i]'(by omega), List.getElem?_eq_getElem _⟩
      obtain ⟨v, hv, rv⟩ := r.get hav
      rw [hav, lookup_zip_rev hnd1 hpx hv]
      exact RelV.ext x₁ _ rv
    · have hav : avs[i]? = Option.none := List.getElem?_eq_none (by omega)
      rw [hav, lookup_rev_mem fun p hp z => ?_]
      · trivial
      · have hlx : x ∈ ls.map (·.1) := by rw [List.getElem?_append_right (by omega)] at hi; exact List.mem_map.mpr ⟨_, List.mem_of_getElem? hi, rfl⟩
        rw [List.map_append] at hnd
        exact (List.nodup_append.mp hnd).2.2 _ (mem_zip_fst hp) x hlx z
  have rf : RF B fc (callEnvC fd s.heap.objs.size f) ⟨avs.map some ++ List.replicate ls.length Option.none, σ⟩ { s with heap := h₁, toks := tk } := by
    subst hfc
    refine ⟨by simp [hlen], ⟨_, hns, fun i x hi => ?_⟩, ⟨hL, rh.size⟩, fun i x k hi hkk => ?_⟩
    · rcases slotsOk_get hok hi with ⟨_, h⟩ | ⟨h, _⟩
      · rw [bindL_eq _ _ _ _ ((hkf x).trans h)]
        have := val i x _ hi
        simpa using this
      · cases h
    · rcases slotsOk_get hok hi with ⟨h, _⟩ | ⟨_, h⟩
      · exact absurd h hkk
      · obtain ⟨c, hc⟩ := Option.isSome_iff_exists.mp (cellsFrom_some fd.scope.names (s.heap.objs.size + 1) [] x (.inl (mem_of_lookup h)))
        have hab' := hab x c (mem_of_lookup hc)
        rw [hL0] at hab'
        have hcn : σ c = Option.none := rh.freshN (Nat.le_of_lt hab')
        refine ⟨c, _, hc, hcell x c hc, ?_, hcn, Nat.le_trans rh.size (Nat.le_of_lt hab')⟩
        rw [bindC_eq _ _ _ _ (by rw [hkf, h]; decide)]
        have := val i x _ hi
        simpa using this
  have hfr' : (A.deeper (callEnvC fd s.heap.objs.size f)).frames = some (callEnvC fd s.heap.objs.size f :: (A.frames.getD [])) := by
    obtain ⟨l, hl, _⟩ := ao.frames
    rw [Around.frames_deeper hl, hl]; rfl
  have ao' : AOk B (A.deeper (callEnvC fd s.heap.objs.size f)) R' σ { s with heap := h₁, toks := tk } := by
    have ao₁ := ao.noW x₁
    refine ⟨?_, ?_, ⟨_, hfr', ?_, ?_⟩, ?_⟩
    · have := ao.depth; show A.depth + 1 + 20 * R'.lv ≤ 900; omega
    · have := ao.units; show A.units + 3 + 200 * R'.lv ≤ 9000; omega
    · obtain ⟨l, hl, h2, h3⟩ := ao₁.frames
      rw [hl]
      refine Heap.FunFrames.cons (by show fd.scope.kind ≠ _; rw [F.kind]; decide) rfl hns ?_ h2
      cases q : B.h₀.get? s.heap.objs.size with
      | none => rfl
      | some z => exact absurd (Heap.lt_size q) (Nat.not_lt.mpr rh.size)
    · obtain ⟨l, hl, h2, h3⟩ := ao₁.frames
      intro e he L hf
      cases he with
      | head =>
        cases hf
        obtain ⟨o, es, ep, e', d', _⟩ := hns
        exact ⟨hL, o, es, ep, e', d'⟩
      | tail _ he => rw [hl] at he; exact h3 e he L hf
    · rw [← hhm]; exact ao₁.handled
  have S : St B fc (callEnvC fd s.heap.objs.size f) (A.deeper (callEnvC fd s.heap.objs.size f)) R' ⟨avs.map some ++ List.replicate ls.length Option.none, σ⟩ { s with heap := h₁, toks := tk } :=
    ⟨rh₁, rf, ao', eo, ⟨_, _, _, hfr', rfl, rfl⟩⟩
  refine wpAny_mono (body_ok rh₀ (x₀.trans x₁) S (fun b hb => Nat.le_trans x₀.size ?_) (fun b hb => ao₀.older hb) hb hd) (fun _ _ h => h) fun _ _ h => h
  rcases hb with z | ⟨i, y, hi, hc⟩
  · rw [z]; exact Nat.le_refl _
  · have := hab y b (mem_of_lookup hc)
    rw [hL0] at this
    exact Nat.le_of_lt this
end
end Mine
-- MjY
namespace Mine
section
variable {B : Bs} {fc : FC} {R R' : Rm} {env : Env} {A : Around}

theorem ns_turn {st : AS} {s : Shared} {x : Str} {i : Nat} {ou : Option AV} {u : Option Value} {h' : Heap} {t : Nat} {mm : Str → Option Value} (S : St B fc env A R st s) (hi : fc.slots[i]? = some (x, .loc))
    (n : s.heap.Ns env.locals mm) (hm : ∀ i x, fc.slots[i]? = some (x, .loc) → RelO st.σ s.heap (lget st.m i) (mm x)) (n' : h'.Ns env.locals fun y => if y = x then u else mm y) (sb : Heap.SameBut env.locals s.heap h') (r : RelO st.σ s.heap ou u) :
    St B fc env A R ⟨lset st.m i ou, st.σ⟩ { s with heap := h', toks := t } ∧ Ext (Wf fc env) st.σ s st.σ { s with heap := h', toks := t } := by
  have sb' : ∀ b o, b ≠ env.locals → s.heap.get? b = some o → h'.get? b = some o := fun b o hb e => (sb.2 b hb).trans e
  have x' : Ext (Wf fc env) st.σ s st.σ { s with heap := h', toks := t } :=
    ⟨fun b o h1 h2 e => ⟨o, sb' b o (fun q => h2 (.inl q)) e, .refl o⟩, fun _ h1 h2 => absurd h1 h2, Nat.le_of_eq sb.1.symm, S.rf.nt⟩
  have F' : RF B fc env ⟨lset st.m i ou, st.σ⟩ { s with heap := h', toks := t } := by
    refine ⟨by rw [lset_length]; exact S.rf.len, ⟨_, n', fun j y hj => ?_⟩, S.rf.nsN, fun j y k hj hkk => ?_⟩
    · rw [lget_lset]
      by_cases q : y = x
      · subst q
        have := slot_inj S.eo hi hj
        subst this
        rw [if_pos (And.intro rfl (slot_lt S.rf hi)), if_pos rfl]
        exact RelO.ext x' r
      · have : ¬ (i = j ∧ i < st.m.length) := fun z => q (by have := z.1; subst this; rw [hi] at hj; cases hj; rfl)
        rw [if_neg this, if_neg q]
        exact RelO.ext x' (hm j y hj)
    · obtain ⟨c, ov, h1, ⟨o, e, d⟩, h3, h4, h5⟩ := S.rf.cell j y k hj hkk
      have hc : c ≠ env.locals := fun z => by
        obtain ⟨o', es, ep, e', d', _⟩ := n
        rw [← z, e] at e'; cases e'; rw [d] at d'; cases d'
      rw [lget_lset]
      have : ¬ (i = j ∧ i < st.m.length) := fun z => by have := z.1; subst this; rw [hi] at hj; cases hj; exact hkk rfl
      rw [if_neg this]
      exact ⟨c, ov, h1, ⟨o, sb' c o hc e, d⟩, RelO.ext x' h3, h4, h5⟩
  refine ⟨⟨S.rh.still x' (fun a ob ha e => sb' a ob (fun z => ha (z ▸ S.rf.nsN.1)) e) (fun b o hb e => sb' b o (fun z => absurd S.rf.nsN.2 (by subst z; exact Nat.not_le.mpr (Heap.lt_size hb))) e) rfl rfl, F', ?_, S.eo, S.fr⟩, x'⟩
  exact S.ao.ext x' (RF.hw S.rf S.ao F') (RF.hwh S.rf S.ao)

theorem name_gone {st : AS} {s : Shared} {x : Str} {i : Nat} {pos : Pos} {Q : Unit → Shared → Prop} {E : Value → Shared → Prop} (S : St B fc env A R st s) (hk : fc.names.lookup x = some .local) (hi : fc.slots[i]? = some (x, .loc))
    (h : ∀ s' u, St B fc env A R ⟨lset st.m i u, st.σ⟩ s' → Ext (Wf fc env) st.σ s st.σ s' → Q () s') : wpAny B.M A (do bindName env x .none; unbindBehindTheSuite env x pos) Q E s := by
  have hp : (env.scope.kind == .class || (env.scope.kind == .module && env.locals != env.globals)) = false := by rw [S.eo.kind]; rfl
  refine wpAny_bind (wpAny_bindName (store_loc S (av := .none) rfl hk hi fun s₁ S₁ x₁ => ?_))
  unfold unbindBehindTheSuite
  refine wpAny_onRaise ?_
  obtain ⟨mm, n, hm⟩ := S₁.rf.ns
  have r := hm i x hi
  rw [show lget (lset st.m i (some .none)) i = some .none by rw [lget_lset, if_pos ⟨rfl, slot_lt S.rf hi⟩]] at r
  obtain ⟨v, hv, _⟩ := RelO.someE r
  refine wpAny_unbindName_local ((S₁.eo.kindOf x).trans hk) n hv hp fun h' u n' sb => ?_
  obtain ⟨S₂, x₂⟩ := ns_turn (t := s₁.toks) (ou := u.map .con) S₁ hi n hm n' sb (by cases u <;> trivial)
  have e : lset (lset st.m i (some .none)) i (u.map .con) = lset st.m i (u.map .con) := by
    have : ∀ (m : List (Option AV)) (i : Nat) (a b : Option AV), lset (lset m i a) i b = lset m i b := fun m => by
      induction m with
      | nil => intros; rfl
      | cons y ys ih => intro i a b; cases i with
        | zero => rfl
        | succ i => simp only [lset, ih]
    exact this _ _ _ _
  dsimp only at S₂
  rw [e] at S₂
  exact h _ _ S₂ (x₁.trans x₂)

theorem St.mark {st : AS} {s : Shared} {n : Nat} {ea : Addr} {y : AX} (S : St B fc env A R st s) (r : RelX st.σ s.heap n (.ref ea) y) : St B fc env (A.mark (some (.ref ea))) ⟨R.lv, some (ea, y)⟩ st s := by
  obtain ⟨_, oe, vs, tv, e, h2, h3, h4, h5, h6, h7, h8, _⟩ := r
  cases e
  exact ⟨S.rh, S.rf, ⟨S.ao.depth, S.ao.units, S.ao.frames, .inr ⟨ea, y, oe, vs, tv, rfl, rfl, h2, h4, h7, h8, h3, h5, h6⟩⟩, S.eo, S.fr⟩
theorem St.unmark {st : AS} {s : Shared} {v : Value} {y : Addr × AX} (hh : A.handled = Option.none) (hR : R.he = Option.none) (S : St B fc env (A.mark (some v)) ⟨R.lv, some y⟩ st s) : St B fc env A R st s :=
  ⟨S.rh, S.rf, ⟨S.ao.depth, S.ao.units, S.ao.frames, .inl ⟨hh, hR⟩⟩, S.eo, S.fr⟩

theorem flight_none {st : AS} {s : Shared} {n : Nat} {ea : Addr} {y : AX} {Q : Unit → Shared → Prop} {E : Value → Shared → Prop} (S : St B fc env A R st s) (r : RelX st.σ s.heap n (.ref ea) y) (hn : B.h₀.objs.size ≤ n) (nt : Noted s.heap (.ref ea)) (hh : ∀ T, n ≤ T → T ≠ ea → A.handled ≠ some (.ref T))
    (h : ∀ s' P, St B fc env A R st s' → (∀ b, P b → n ≤ b) → Ext P st.σ s st.σ s' → RelX st.σ s'.heap n (.ref ea) y → Noted s'.heap (.ref ea) → Q () s') : wpAny B.M A (setFlight (.ref ea) none) Q E s := by
  obtain ⟨_, oe, vs, tv, e, h2, h3, h4, h5, h6, h7, h8, h9, hc, h10⟩ := r
  cases e
  obtain ⟨_, oe', vs', T', e1, e2, e3, e4⟩ := nt
  cases e1
  rw [h2] at e2; cases e2
  rw [h4] at e3; cases e3
  rcases h10 with z | ⟨T, oT, ts, hq, hT, hdT, hs3, hσT, hnT, hTe, hcT⟩
  · rw [z] at e4; cases e4
  · unfold setFlight
    refine wpAny_bind (wpAny_field h2 h4 hq ?_)
    rw [if_pos (show (Value.ref T != Value.none) = true from by simp)]
    refine set_young (s' := s) S (hh T hnT hTe) hT hdT hs3 hσT (Nat.le_trans hn hnT) hcT fun s₁ S₁ x₁ o₁ a₁ z₁ => ?_
    have he := (o₁ ea (Ne.symm hTe)).trans h2
    exact h s₁ (· = T) S₁ (fun b hb => hb ▸ hnT) x₁ ⟨ea, oe, vs, tv, rfl, he, h3, h4, h5, RelV.ext x₁ _ h6, h7, h8, h9, hc, .inr ⟨T, _, _, hq, a₁, Obj.data_mapFields hdT _, by simp [hs3], hσT, hnT, hTe, by rw [Obj.cls_mapFields]; exact hcT⟩⟩ ⟨ea, oe, vs, T, rfl, he, h4, hq⟩

noncomputable def Takes (B : Bs) (X₀ c : Value) : Prop := ∀ h, B.K.In h → ∀ e oe, h.get? e = some oe → oe.cls = X₀ → Looks B.M h (excMatches (.ref e) c) true
theorem takes_of {X₀ c : Value} (hx : exmOne B.K X₀ c = some true) : Takes B X₀ c := fun h X e oe ho hc => exm_one X (hc ▸ (Looks.ld ho).andThen .now) hx

noncomputable def STry (X₀ : Value) (b : SD) (h : Addr → AX → SD) (nm : Option Nat) : SD := fun st Q X => b st Q (fun y st => y.cls = X₀ ∧ ∀ ea, h ea y (match nm with | none => st | some i => ⟨lset st.m i (some (.con (.ref ea))), st.σ⟩)
  (fun o st => match nm with | none => Q o st | some i => ∀ u, Q o ⟨lset st.m i u, st.σ⟩) (fun _ _ => False))

theorem handled_none (hR : R.he = Option.none) {σ : Sto} {s : Shared} (a : AOk B A R σ s) : A.handled = Option.none := by
  rcases a.handled with ⟨h, _⟩ | ⟨_, _, _, _, _, h, _⟩
  · exact h
  · rw [h] at hR; cases hR

theorem St.wf_lt {st : AS} {s : Shared} (S : St B fc env A R st s) {b : Addr} (hb : Wf fc env b) : b < s.heap.objs.size := by
  rcases hb with rfl | ⟨i, x, hi, hc⟩
  · obtain ⟨mm, ⟨o, _, _, e, _⟩, _⟩ := S.rf.ns
    exact Heap.lt_size e
  · obtain ⟨c, ov, hc', ⟨o', e', d'⟩, _⟩ := S.rf.cell i x .own hi (by decide)
    rw [hc] at hc'; cases hc'
    exact Heap.lt_size e'
theorem RelX.ext {W : Addr → Prop} {σ σ' : Sto} {s s' : Shared} {n : Nat} {e : Value} {y : AX} (x : Ext W σ s σ' s') (hW : ∀ b, W b → b < n) (r : RelX σ s.heap n e y) (nt : Noted s.heap e) : RelX σ' s'.heap n e y ∧ Noted s'.heap e := by
  obtain ⟨ea, oe, vs, tv, rfl, h2, h3, h4, h5, h6, h7, h8, h9, hc, h10⟩ := r
  obtain ⟨_, oe', vs', T', e1, e2, e3, e4⟩ := nt
  cases e1
  rw [h2] at e2; cases e2
  rw [h4] at e3; cases e3
  have old : ∀ b, n ≤ b → ¬ W b := fun b hb hw => absurd (hW b hw) (Nat.not_lt.mpr hb)
  have q := x.stays h8 (old ea h9) h2 (fun _ _ z => by rw [h4] at z; cases z)
  rcases h10 with z | ⟨T, oT, ts, hq, hT, hdT, hs3, hσT, hnT, hTe, hcT⟩
  · rw [z] at e4; cases e4
  · have p := x.stays hσT (old T hnT) hT (fun _ _ z => by rw [hdT] at z; cases z)
    exact ⟨⟨ea, oe, vs, tv, rfl, q.1, h3, h4, h5, RelV.ext x _ h6, h7, q.2, h9, hc, .inr ⟨T, oT, ts, hq, p.1, hdT, hs3, p.2, hnT, hTe, hcT⟩⟩, ⟨ea, oe, vs, T, rfl, q.1, h4, hq⟩⟩

theorem try_head {X₀ c : Value} {t : Expr} {name : Option Str} {suite : List Stmt} {tpos pos : Pos} {body : List Stmt} {b : SD} {st : AS} {s : Shared} {Q : Out → AS → Prop} {X Y : QX} (hR : R.he = Option.none) (hb : SemSs B fc R body b) (ht : ∀ R, SemE B fc R t (Con (.con c))) (hm : Takes B X₀ c)
    (S : St B fc env A R st s) (d : b st Q Y) (hY : ∀ y st', Y y st' → y.cls = X₀)
    (h : ∀ y st' s' ea, St B fc env (A.mark (some (.ref ea))) ⟨R.lv, some (ea, y)⟩ st' s' → Ext (Wf fc env) st.σ s st'.σ s' → RelX st'.σ s'.heap s.heap.objs.size (.ref ea) y → Noted s'.heap (.ref ea) → Y y st' →
      codeAny B.M (A.mark (some (.ref ea))) (.handlers (.ref ea) [.ExceptHandler none name suite tpos] env) (fun r s₂ => match r with
          | .ok f => (match name with
            | none => PF B fc env A R st s Q f s₂
            | some n => wpAny B.M A (do bindName env n .none; unbindBehindTheSuite env n tpos) (fun _ s₃ => PF B fc env A R st s Q f s₃) (PX B fc env A R st s X) s₂)
          | .error x => cameBackBy B.M A env (PX B fc env A R st s X) x s₂) s') :
    wpAny B.M A (exec (.Try body [.ExceptHandler (some t) name suite tpos] [] [] pos) env) (PF B fc env A R st s Q) (PX B fc env A R st s X) s := by
  have hh := handled_none hR S.ao
  refine wpAny_Try_except (wpAny_mono (hb env A st s Q _ S d) ?_ ?_)
  · refine fun f s₁ h₁ => ?_
    cases f with
    | next => exact wpAny_execs_nil h₁
    | _ => exact h₁
  · refine fun e s₁ h₁ => wpAny_mono (PX.noted (E := PX B fc env A R st s X) S h₁) ?_ fun _ _ h => h
    refine fun _ s₂ h₂ => ?_
    obtain ⟨h₂, nt⟩ := h₂
    revert nt
    refine PX.el (fun y st₂ S₂ x₂ r₂ q₂ => ?_) h₂
    obtain ⟨ea, rfl⟩ : ∃ ea, e = .ref ea := by obtain ⟨ea, _, _, _, h, _⟩ := r₂; exact ⟨ea, h⟩
    refine fun nt => flight_none S₂ r₂ S.rh.size nt (fun T hT _ => S.ao.older hT) fun s₃ P S₃ hP x₃ r₃ nt₃ => ?_
    have y₃ := x₂.transX x₃ hP
    have M₃ := S₃.mark r₃
    refine wpAny_handleBy_cons (codeAny_handlers_test (wpAny_mono (ht _ env _ st₂ s₃ (fun v st' => v = .con c ∧ st' = st₂) (fun _ _ => False) M₃ ⟨rfl, rfl⟩) ?_ ?_)) (by intro q; cases q)
    · refine fun v s₄ => PV.el fun av st₄ S₄ x₄ rv qq => ?_
      obtain ⟨rfl, rfl⟩ := qq
      cases rv
      obtain ⟨r₄, nt₄⟩ := RelX.ext x₄ (fun b hb => S.wf_lt hb) r₃ nt₃
      obtain ⟨oe, ho, hcl⟩ : ∃ oe, s₄.heap.get? ea = some oe ∧ oe.cls = X₀ := by
        obtain ⟨_, oe, _, _, h, h2, h3, _⟩ := r₄
        cases h; exact ⟨oe, h2, h3.trans (hY _ _ q₂)⟩
      exact (hm _ S₄.rh.inK ea oe ho hcl).here (h _ _ _ _ S₄ (y₃.trans x₄) r₄ nt₄ q₂)
    · exact fun _ _ => PX.el fun _ _ _ _ _ q => q.elim

theorem SemS_try {X₀ c : Value} {t : Expr} {b₀ : Stmt} {suite : List Stmt} {tpos pos : Pos} {body : List Stmt} {b : SD} {hd : Addr → AX → SD} (hR : R.he = Option.none) (ht : ∀ R, SemE B fc R t (Con (.con c))) (hm : Takes B X₀ c) (hb : SemSs B fc R body b)
    (hs : ∀ ea y, SemSs B fc ⟨R.lv, some (ea, y)⟩ (b₀ :: suite) (hd ea y)) : SemS B fc R (.Try body [.ExceptHandler (some t) none (b₀ :: suite) tpos] [] [] pos) (STry X₀ b hd none) := by
  intro env A st s Q X S d
  refine try_head (Y := fun y st => y.cls = X₀ ∧ ∀ ea, hd ea y st Q fun _ _ => False) hR hb ht hm S d (fun _ _ h => h.1) fun y st' s' ea M x r nt q => codeAny_handlers_suite ?_
  refine flight_none M r S.rh.size nt (fun T hT hne z => hne (by cases z; rfl)) fun s₁ P M₁ hP x₁ r₁ nt₁ => ?_
  refine wpAny_mono (hs ea y env _ st' s₁ Q _ M₁ (q.2 ea)) ?_ fun _ _ => PX.el fun _ _ _ _ _ q => q.elim
  refine fun f s₂ => PF.el fun o st₂ S₂ x₂ r₂ q₂ => ?_
  exact PF.mk _ _ (S₂.unmark (handled_none hR S.ao) hR) ((x.transX x₁ hP).trans x₂) r₂ q₂
theorem SemS_tryAs {X₀ c : Value} {t : Expr} {n : Str} {i : Nat} {b₀ : Stmt} {suite : List Stmt} {tpos pos : Pos} {body : List Stmt} {b : SD} {hd : Addr → AX → SD} (hR : R.he = Option.none) (ht : ∀ R, SemE B fc R t (Con (.con c))) (hm : Takes B X₀ c) (hi : SlotAt fc.slots i n .loc) (hk : fc.names.lookup n = some .local) (hb : SemSs B fc R body b)
    (hs : ∀ ea y, SemSs B fc ⟨R.lv, some (ea, y)⟩ (b₀ :: suite) (hd ea y)) : SemS B fc R (.Try body [.ExceptHandler (some t) (some n) (b₀ :: suite) tpos] [] [] pos) (STry X₀ b hd (some i)) := by
  intro env A st s Q X S d
  refine try_head (Y := fun y st => y.cls = X₀ ∧ ∀ ea, hd ea y ⟨lset st.m i (some (.con (.ref ea))), st.σ⟩ (fun o st => ∀ u, Q o ⟨lset st.m i u, st.σ⟩) fun _ _ => False) hR hb ht hm S d (fun _ _ h => h.1) fun y st' s' ea M x r nt q => codeAny_handlers_suite_as ?_
  refine flight_none M r S.rh.size nt (fun T hT hne z => hne (by cases z; rfl)) fun s₁ P M₁ hP x₁ r₁ nt₁ => ?_
  refine store_loc M₁ (av := .con (.ref ea)) rfl hk hi.get fun s₂ M₂ x₂ => ?_
  refine wpAny_mono (hs ea y env _ _ s₂ _ _ M₂ (q.2 ea)) ?_ fun _ _ => PX.el fun _ _ _ _ _ q => q.elim
  refine fun f s₃ => PF.el fun o st₃ S₃ x₃ r₃ q₃ => ?_
  refine name_gone (S₃.unmark (handled_none hR S.ao) hR) hk hi.get fun s₄ u S₄ x₄ => ?_
  refine PF.mk _ _ S₄ ((((x.transX x₁ hP).trans x₂).trans x₃).trans x₄) ?_ (q₃ u)
  cases o with
  | ret a => obtain ⟨v, rfl, rv⟩ := r₃; exact ⟨v, rfl, RelV.ext x₄ _ rv⟩
  | _ => exact r₃

end
end Mine
-- MjZ
namespace Mine
section
variable {B : Bs} {fc : FC} {R R' : Rm} {env : Env} {A : Around}

theorem bind_va2 {fd : FuncData} {p q v : Arg} (h : fd.params = { posonlyargs := [], args := [p, q], vararg := some v, kwonlyargs := [], kw_defaults := [], kwarg := none, defaults := [] }) (hd : fd.defaults = .none) (hpq : p.arg ≠ q.arg) (a b : Value) (rest : List Value) :
    bindArgs fd ⟨a :: b :: rest, []⟩ = newTuple rest >>= fun t => pure [(p.arg, a), (q.arg, b), (v.arg, t)] := by
  have e1 : (q.arg == p.arg) = false := beq_eq_false_iff_ne.mpr (Ne.symm hpq)
  unfold bindArgs
  rw [h, hd]
  simp [seqItems?, List.lookup, e1]
  rfl
theorem bind_va1 {fd : FuncData} {p v : Arg} (h : fd.params = { posonlyargs := [], args := [p], vararg := some v, kwonlyargs := [], kw_defaults := [], kwarg := none, defaults := [] }) (hd : fd.defaults = .none) (a : Value) (rest : List Value) :
    bindArgs fd ⟨a :: rest, []⟩ = newTuple rest >>= fun t => pure [(p.arg, a), (v.arg, t)] := by
  unfold bindArgs
  rw [h, hd]
  simp [seqItems?, List.lookup]
  rfl
theorem Binds.va2 {fd : FuncData} {p q v : Arg} {a b : AV} {rest : List AV} (h : fd.params = { posonlyargs := [], args := [p, q], vararg := some v, kwonlyargs := [], kw_defaults := [], kwarg := none, defaults := [] }) (hd : fd.defaults = .none) (hpq : p.arg ≠ q.arg) (hl : rest.length < 1000) :
    Binds B fd [p.arg, q.arg, v.arg] (a :: b :: rest) [a, b, .tup rest] := by
  rintro A σ s _ Q E rh ⟨v1, _, rfl, r1, v2, vs, rfl, r2, r3⟩ k
  rw [bind_va2 h hd hpq]
  refine wpAny_bind (wpAny_newObj_type (wpAny_pure ?_) (sizeOk (by simp [r3.length]; exact hl)))
  obtain ⟨rh', x'⟩ := mvPush rh (tupO vs) s.toks
  exact k [v1, v2, .ref s.heap.objs.size] _ rh' x' ⟨_, _, rfl, RelV.ext x' _ r1, _, _, rfl, RelV.ext x' _ r2, _, _, rfl, ⟨_, vs, rfl, Heap.get?_push_size _ rfl, rh.freshN (Nat.le_refl _), RelVs.ext x' _ r3⟩, rfl⟩
theorem Binds.va1 {fd : FuncData} {p v : Arg} {a : AV} {rest : List AV} (h : fd.params = { posonlyargs := [], args := [p], vararg := some v, kwonlyargs := [], kw_defaults := [], kwarg := none, defaults := [] }) (hd : fd.defaults = .none) (hl : rest.length < 1000) :
    Binds B fd [p.arg, v.arg] (a :: rest) [a, .tup rest] := by
  rintro A σ s _ Q E rh ⟨v1, vs, rfl, r1, r3⟩ k
  rw [bind_va1 h hd]
  refine wpAny_bind (wpAny_newObj_type (wpAny_pure ?_) (sizeOk (by simp [r3.length]; exact hl)))
  obtain ⟨rh', x'⟩ := mvPush rh (tupO vs) s.toks
  exact k [v1, .ref s.heap.objs.size] _ rh' x' ⟨_, _, rfl, RelV.ext x' _ r1, _, _, rfl, ⟨_, vs, rfl, Heap.get?_push_size _ rfl, rh.freshN (Nat.le_refl _), RelVs.ext x' _ r3⟩, rfl⟩
theorem Binds.dflt {fd : FuncData} {ps : List Str} {avs bvs : List AV} (bs : List Value → List Value) (h : ∀ vs : List Value, vs.length = avs.length → ∀ h, B.K.In h → ∀ g d t os, BindsTo ⟨h, g, d, t, os⟩ fd ⟨vs, []⟩ (ps.zip (bs vs))) (hr : ∀ σ h vs, RelVs σ h avs vs → RelVs σ h bvs (bs vs)) : Binds B fd ps avs bvs :=
  fun A σ s vs Q E rh r k => h vs r.length _ rh.inK _ _ _ _ _ _ _ _ (k (bs vs) s rh (Ext.refl _ _) (hr _ _ _ r))

noncomputable def oMake (C : Addr) (init : List AV → OD) : List AV → OD := fun as σ Q X => ∀ p dx, σ p = Option.none → σ dx = Option.none → p ≠ dx → init (.ptr p :: as) (upd (upd σ dx (.attrs [])) p (.inst C dx)) (fun v σ' => v = .none ∧ Q (.ptr p) σ') X
noncomputable def oMakeS (C : Addr) (init : List AV → OD) : List AV → OD := fun as σ Q X => ∀ p dx, σ p = Option.none → σ dx = Option.none → p ≠ dx → init (.ptr p :: as) (upd (upd σ dx (.attrs [])) p (.slots C dx [])) (fun v σ' => v = .none ∧ Q (.ptr p) σ') X
theorem make_any {C fI : Addr} {init : List AV → OD} {o : Addr → AObj} (ho : ∀ σ h dx a, h.get? a = some (instObj C dx) → RepO B σ h a (o dx)) (hm : makesIn B.K C = true) (hi : findIn B.K (.ref C) "__init__" = some (some (.ref fI))) (hf : typeIn B.K (.ref fI) = some (.type "function"))
    (hlv : R.lv = R'.lv + 1) (hhm : R.he = R'.he) (hc : SemC B R' (.ref fI) init) :
    SemC B R (.ref C) (fun as σ Q X => ∀ p dx, σ p = Option.none → σ dx = Option.none → p ≠ dx → init (.ptr p :: as) (upd (upd σ dx (.attrs [])) p (o dx)) (fun v σ' => v = .none ∧ Q (.ptr p) σ') X) := by
  intro A σ s as vs Q X ao rh r h
  obtain ⟨h1, x1⟩ := mvPush rh emptyDict s.toks
  have e1 : σ s.heap.objs.size = Option.none := rh.freshN (Nat.le_refl _)
  obtain ⟨t1, y1⟩ := track (o := .attrs []) h1 x1 (Nat.le_refl _) e1 rh.size (Heap.get?_push_size _ rfl) (nImm (n := "dict") rfl (by decide)) ⟨[], 0, Heap.get?_push_size _ rfl, rfl⟩
  obtain ⟨h2, x2⟩ := mvPush t1 (instObj C s.heap.objs.size) s.toks
  have hz : (s.heap.push emptyDict).objs.size = s.heap.objs.size + 1 := Heap.size_push ..
  have e2 : upd σ s.heap.objs.size (.attrs []) (s.heap.objs.size + 1) = Option.none := t1.freshN (by show (s.heap.push emptyDict).objs.size ≤ _; omega)
  have g2 : ((s.heap.push emptyDict).push (instObj C s.heap.objs.size)).get? (s.heap.objs.size + 1) = some (instObj C s.heap.objs.size) := by rw [← hz]; exact Heap.get?_push_size _ rfl
  obtain ⟨t2, y2⟩ := track (o := o s.heap.objs.size) h2 x2 (a := s.heap.objs.size + 1) (by show (s.heap.push emptyDict).objs.size ≤ _; omega) e2 (Nat.le_trans rh.size (Nat.le_succ _)) g2 (by
    rintro (⟨_, q⟩ | ⟨_, _, _, _, _, _, q⟩ | ⟨k, _, q⟩ | ⟨_, q⟩) <;> cases q) (ho _ _ _ _ g2)
  have hne : s.heap.objs.size + 1 ≠ s.heap.objs.size := Nat.succ_ne_self _
  have e2' : σ (s.heap.objs.size + 1) = Option.none := rh.freshN (Nat.le_succ _)
  have y := y1.trans y2
  have q := h (s.heap.objs.size + 1) s.heap.objs.size e2' e1 hne
  have ao2 := ao.noW y
  have ao3 : AOk B (A.under (.builtin "type.__call__" ⟨.ref C :: vs, []⟩)) R' _ _ := ⟨by have := ao2.depth; rw [depth_under_make]; omega, by have := ao2.units; rw [units_under_make]; omega, ao2.frames, by rw [← hhm]; exact ao2.handled⟩
  refine (make_core (makes_of rh.inK hm) (looks_findIn rh.inK hi) (fun self => bind_fn rh.inK self hf) (.inl rfl) ?_)
  have rs : RelVs (upd (upd σ s.heap.objs.size (.attrs [])) (s.heap.objs.size + 1) (o s.heap.objs.size)) ((s.heap.push emptyDict).push (instObj C s.heap.objs.size)) (.ptr (s.heap.objs.size + 1) :: as) (.ref (s.heap.objs.size + 1) :: vs) := ⟨_, _, rfl, rfl, RelVs.ext y _ r⟩
  refine codeAny_mono (hc _ _ _ _ _ _ _ ao3 t2 rs q) fun r s' => ?_
  rcases r with e | (_ | _ | _ | v)
  · rintro ⟨x, σ', k1, k2, k3, k4⟩
    exact ⟨x, σ', k1, y.trans k2, k3.le y.size, k4⟩
  · exact fun z => z
  · exact fun z => z
  · exact fun z => z
  · rintro ⟨av, σ', k1, k2, k3, rfl, k4⟩
    exact ⟨k3, .ptr _, σ', k1, y.trans k2, rfl, k4⟩
theorem SemC_make {C fI : Addr} {init : List AV → OD} (hm : makesIn B.K C = true) (hi : findIn B.K (.ref C) "__init__" = some (some (.ref fI))) (hf : typeIn B.K (.ref fI) = some (.type "function"))
    (hlv : R.lv = R'.lv + 1) (hhm : R.he = R'.he) (hc : SemC B R' (.ref fI) init) : SemC B R (.ref C) (oMake C init) := make_any (o := .inst C) (fun _ _ _ _ h => h) hm hi hf hlv hhm hc
theorem SemC_makeS {C fI : Addr} {init : List AV → OD} (hm : makesIn B.K C = true) (hi : findIn B.K (.ref C) "__init__" = some (some (.ref fI))) (hf : typeIn B.K (.ref fI) = some (.type "function"))
    (hlv : R.lv = R'.lv + 1) (hhm : R.he = R'.he) (hc : SemC B R' (.ref fI) init) : SemC B R (.ref C) (oMakeS C init) := make_any (o := fun dx => .slots C dx []) (fun _ _ _ _ h => ⟨#[], h, rfl⟩) hm hi hf hlv hhm hc
theorem SemE_callK {x : Str} {p pos : Pos} {f : Value} {es : List Expr} {ds : List ED} {g : List AV → OD} (hn : SemE B fc R (.Name x p) (Con (.con f))) (hk : keepIn B.K f = true)
    (hs : SemAs B fc R es ds) (hns : es.all notStar = true) (hf : SemC B R f g) : SemE B fc R (.Call (.Name x p) es [] pos) (Cal g ds) := by
  intro env A st s Q X S d
  rw [arm_eval_Call_Name']
  refine wpAny_bind (wpAny_mono (hn env A st s (fun v st' => v = .con f ∧ Cal g ds st' Q X) X S ⟨rfl, d⟩) ?_ fun _ _ e => e)
  refine fun v s₁ => PV.el fun av st₁ S₁ x₁ r₁ qq => ?_
  obtain ⟨rfl, q₁⟩ := qq
  cases r₁
  refine callWith_of (P := B.K.In) (by rw [plainAs hns pos env]; rfl) (keeps_K hk) (evalArgs_ok hs hns S₁ q₁ (fun vs s' h => ?_) fun e s' h => h.of x₁)
  refine ⟨?_, wpAny_mono (call_ok hf.on h) (fun v s' h => h.of x₁) fun v s' h => h.of x₁⟩
  exact PVs.el (fun _ _ S' _ _ _ => S'.rh.inK) h
end
end Mine
-- MjZa
namespace Mine
section
variable {B : Bs} {fc : FC} {R R' : Rm} {env : Env} {A : Around}

noncomputable def EStar (pre : AV → Sto → Prop) (f : List AV → OD) (o a b : ED) : ED := fun st Q X => o st (fun vo st => pre vo st.σ ∧ a st (fun va st => b st (fun vb st => ∃ l xs, vb = .ptr l ∧ st.σ l = some (.list xs) ∧ xs.length < 1000 ∧ f (vo :: va :: xs) st.σ (fun r σ => Q r ⟨st.m, σ⟩) (fun x σ => X x ⟨st.m, σ⟩)) X) X) X
end
end Mine
-- MjZb
namespace Mine
section
variable {B : Bs} {fc : FC} {R R' : Rm} {env : Env} {A : Around}

noncomputable def EJs : List ED → Str → AS → (Str → AS → Prop) → QX → Prop
  | [], acc, st, Q, _ => Q acc st
  | d :: ds, acc, st, Q, X => d st (fun v st => ∃ y, v = .str y ∧ (acc ++ y).length < 1000 ∧ EJs ds (acc ++ y) st Q X) X
noncomputable def EJoin (ds : List ED) : ED := fun st Q X => EJs ds Str.empty st (fun out st => Q (.str out) st) X
theorem SemE_join1 {e : Expr} {pos : Pos} {d : ED} (h : SemE B fc R e d) : SemE B fc R (.JoinedStr [e] pos) d :=
  fun env A st s Q X S q => wpAny_JoinedStr_one (h env A st s Q X S q)
noncomputable def SRaise (cls : Value) (ds : List ED) : SD := fun st Q X => Evs ds st (fun vs st => vs.length < 1000 ∧ X ⟨cls, vs⟩ st) X
theorem made_px {cls : Value} {st : AS} {s s₁ : Shared} {X : QX} {vs : List Value} {h' : Heap} {e : Addr} (hc : XCls cls) (h : PVs B fc env A R st s (fun vs st => vs.length < 1000 ∧ X ⟨cls, vs⟩ st) vs s₁) (m : Heap.MadeExcOf s₁.heap h' e cls vs) (g : Gone s₁.heap h') :
    PX B fc env A R st s X (.ref e) { s₁ with heap := h' } := by
  refine PVs.el (fun avs st₁ S₁ x₁ r₁ qq => ?_) h
  obtain ⟨t, h1, h2, h3⟩ := m.there
  have big : ∀ {b o}, s₁.heap.get? b = none → h'.get? b = some o → s₁.heap.objs.size ≤ b := fun {b o} hn he => Nat.le_of_not_lt fun hl => by rw [g.2 b hl hn] at he; cases he
  have he := big m.new h1
  have ht := big h2 h3
  obtain ⟨rh', x'⟩ := mvKeeps (t := s₁.toks) S₁.rh m.keeps g.1
  have hn : ∀ {b}, s₁.heap.objs.size ≤ b → st₁.σ b = Option.none := fun hb => S₁.rh.freshN hb
  refine ⟨⟨cls, avs⟩, st₁, S₁.op rh' x', x₁.trans (S₁.extW x'), ⟨e, _, _, .ref t, rfl, h1, rfl, rfl, rfl, ⟨t, vs, rfl, h3, hn ht, RelVs.ext x' _ r₁⟩, rfl, hn he, Nat.le_trans x₁.size he, hc, .inl rfl⟩, qq.2⟩
noncomputable def oBool : List AV → OD := fun as σ Q _ => Ex2 fun p xs => An4 (as = [.ptr p]) (σ p = some (.list xs)) (xs.length < 1000) (Q (.bool (!xs.isEmpty)) σ)
theorem meets_bool_list (l : Addr) (items : Array Value) (n : Nat) (hz : (items.size : Int) < 2 ^ 63) :
    Meets (Builtin.«bool.__new__» ⟨[.type "bool", .ref l], []⟩) (fun _ R s => s.heap.get? l = some { cls := .type "list", data := .seq items n } ∧ R (.ok (.ret (.bool (!items.isEmpty)))) { s with toks := s.toks + 1 + 1 }) :=
  Meets.of_wp fun prog w A R s hs => by
    obtain ⟨hl, hs⟩ := hs
    have f1 := PySem.F.conv_sub_bool
    unfold Builtin.«bool.__new__»
    show wpAny _ _ (isSubtype (.type "bool") (.type "bool") >>= _) _ _ s
    rw [f1]
    show wpAny _ _ (truthy (.ref l) >>= fun b => ret (.bool b)) _ _ s
    exact wpAny_bind (wpAny_truthy_list ⟨_, hl, rfl, n, rfl⟩ hz (wpAny_pure ⟨_, rfl, hs⟩))
theorem semBool : SemOn B R (fun vs => call (.type "bool") vs) oBool := by
  rintro A σ s as vs Q X ao rh r ⟨p, xs, rfl, e, hl, hq⟩
  obtain ⟨v1, w1, rfl, h1, h3⟩ := r
  cases h1; cases h3
  obtain ⟨vs, n, e', r⟩ := rh.sto _ _ e
  refine call_bool_1 (meets_bool_list p vs.toArray n (by have := r.length; simp; omega)) ⟨e', (show wants (fun obj s₁ => s₁.TypeIs obj "bool" ∧ PO B σ s Q obj s₁) _ _ _ from ⟨rfl, ?_⟩)⟩
  refine ⟨.bool (!xs.isEmpty), σ, rh.toks _, Ext.toks _ _ _, ?_, hq⟩
  rw [relVs_empty r]; rfl
end
end Mine
-- MjZc
namespace Mine
namespace LI
theorem ga : typeLookup (.type "list_iterator") "__getattribute__" = pure (some (.builtin "object.__getattribute__")) := by rw [typeLookup_type, builtinLookup_eq_fast]; kernel_rfl
theorem nx : typeLookup (.type "list_iterator") "__next__" = pure (some (.builtin "list_iterator.__next__")) := slot_listiter_next.lookup
theorem ty : typeOf (.builtin "list_iterator.__next__") = pure (.type "wrapper_descriptor") := by show builtinType _ = _; rw [builtinType_eq_fast]; kernel_rfl
theorem gt : typeLookup (.type "wrapper_descriptor") "__get__" = pure (some (.builtin "wrapper_descriptor.__get__")) := by rw [typeLookup_type, builtinLookup_eq_fast]; kernel_rfl
theorem st : typeLookup (.type "wrapper_descriptor") "__set__" = pure none := by rw [typeLookup_type, builtinLookup_eq_fast]; kernel_rfl
theorem dl : typeLookup (.type "wrapper_descriptor") "__delete__" = pure none := by rw [typeLookup_type, builtinLookup_eq_fast]; kernel_rfl
theorem sl : Slot "wrapper_descriptor" "__get__" "wrapper_descriptor.__get__" :=
  .of (owner := "wrapper_descriptor") (n := "__get__") (by rw [typeLookup_type, builtinLookup_eq_fast]; kernel_rfl) (by decide +kernel) (by decide +kernel) (by decide +kernel)
    (by first | exact .inl (by decide +kernel) | exact .inr (by decide +kernel)) (by rw [isSubtype_type]; kernel_rfl)
theorem slg : Slot "list_iterator" "__getattribute__" "object.__getattribute__" :=
  .of (owner := "object") (n := "__getattribute__") (by rw [typeLookup_type, builtinLookup_eq_fast]; kernel_rfl) (by decide +kernel) (by decide +kernel) (by decide +kernel)
    (by first | exact .inl (by decide +kernel) | exact .inr (by decide +kernel)) (by rw [isSubtype_type]; kernel_rfl)
theorem en : entryFor table "wrapper_descriptor.__get__" = some Builtin.«wrapper_descriptor.__get__» := entryFor_of_tree (by kernel_rfl)
theorem eng : entryFor table "object.__getattribute__" = some Builtin.«object.__getattribute__» := entryFor_of_tree (by kernel_rfl)
theorem ar (a b c : Value) : argsOk "wrapper_descriptor.__get__" ⟨[a, b, c], []⟩ := by unfold argsOk; kernel_rfl
theorem arg (a b : Value) : argsOk "object.__getattribute__" ⟨[a, b], []⟩ := by unfold argsOk; kernel_rfl
theorem ow : (".".intercalate ("list_iterator.__next__".cutAt '.').dropLast) = "list_iterator" := by
  have e0 : "list_iterator.__next__".cutAt '.' = ["list_iterator", "__next__"] := by first | rfl | decide +kernel
  rw [e0]; decide +kernel
theorem sb : isSubtype (.type "list_iterator") (.type (".".intercalate ("list_iterator.__next__".cutAt '.').dropLast)) = pure true := by rw [ow, isSubtype_type]; kernel_rfl
end LI
section
variable {prog : Program} {w : World} {A : Around} {E : Value → Shared → Prop} {h : Heap} {g : Array GenState} {d : Drawn} {t : Nat} {os : OsState} {a : Addr} {o : Obj}
theorem nx_get {R : Result → Shared → Prop} (hx : h.get? a = some o) (hc : o.cls = .type "list_iterator") (hq : R (.ok (.ret (.ref h.objs.size))) ⟨h.push (wrpO a), g, d, t, os⟩) :
    codeAny (model prog w) A (.call (.builtin "wrapper_descriptor.__get__") ⟨[.builtin "list_iterator.__next__", .ref a, .type "list_iterator"], []⟩) R ⟨h, g, d, t, os⟩ := by
  have hT : (⟨h, g, d, t, os⟩ : Shared).TypeIs (.ref a) "list_iterator" := ⟨_, hx, hc⟩
  have hT5 : (⟨h, g, d, t, os⟩ : Shared).TypeIs (.builtin "list_iterator.__next__") "wrapper_descriptor" := LI.ty
  have f8 := LI.sb
  refine codeAny_call_builtin LI.sl.plain LI.en (LI.sl.check _ _ _ _ _ _ _ _ hT5 (LI.ar _ _ _) ?_)
  repeat (any_goals (first | assumption | wp_step))
theorem nx_entry {tk : Tok} {Q : Fin → Shared → Prop} {vs : Array Value} {sl : Array (Option Value)} (hx : h.get? a = some ⟨.type "list_iterator", none, .fields vs, sl⟩) (hq : Q (.done (.ret (.ref h.objs.size))) ⟨h.push (wrpO a), g, d, t, os⟩) :
    wpAny (model prog w) A (Builtin.«object.__getattribute__» ⟨[.ref a, .str "__next__" tk], []⟩) Q E ⟨h, g, d, t, os⟩ := by
  have hT : (⟨h, g, d, t, os⟩ : Shared).TypeIs (.ref a) "list_iterator" := ⟨_, hx, rfl⟩
  have hT5 : (⟨h, g, d, t, os⟩ : Shared).TypeIs (.builtin "list_iterator.__next__") "wrapper_descriptor" := LI.ty
  have f4 := LI.nx
  have f5 := LI.ty
  have f6 := LI.gt
  have f7 := LI.st
  have f8 := LI.dl
  repeat (any_goals (first | assumption | with_reducible refine wpAny_loadPart hx ?_ | with_reducible refine wpAny_load hx ?_ | wp_step))
  exact nx_get hx rfl (wpAny_pure hq)
theorem nx_by {tk : Tok} {fill expr : Bool} {vs : Array Value} {sl : Array (Option Value)} {Q : Value → Shared → Prop} (hx : h.get? a = some ⟨.type "list_iterator", none, .fields vs, sl⟩) (hq : Q (.ref h.objs.size) ⟨h.push (wrpO a), g, d, t, os⟩) :
    wpAny (model prog w) A (getAttrBy (.ref a) (.str "__next__" tk) fill expr) Q E ⟨h, g, d, t, os⟩ := by
  have hT : (⟨h, g, d, t, os⟩ : Shared).TypeIs (.ref a) "list_iterator" := ⟨_, hx, rfl⟩
  have f2 := LI.slg.lookup
  have f3 := LI.slg.bind (.ref a)
  have hx0 : (expr && onTheHeap (Value.builtin "object.__getattribute__")) = false := by cases expr <;> rfl
  repeat (any_goals (first | assumption | wp_step))
  refine codeAny_call_builtin LI.slg.plain LI.eng (LI.slg.check _ _ _ _ _ _ _ _ hT (LI.arg _ _) (nx_entry hx ?_))
  repeat (any_goals (first | assumption | wp_step))
theorem nx_attr {expr : Bool} {vs : Array Value} {sl : Array (Option Value)} {Q : Value → Shared → Prop} (hx : h.get? a = some ⟨.type "list_iterator", none, .fields vs, sl⟩) (hq : Q (.ref h.objs.size) ⟨h.push (wrpO a), g, d, t + 1, os⟩) :
    wpAny (model prog w) A (getAttr (.ref a) "__next__" expr) Q E ⟨h, g, d, t, os⟩ := by
  unfold getAttr
  repeat (any_goals (first | assumption | with_reducible apply nx_by hx | wp_step))
end
noncomputable def drp (σ : Sto) (a : Addr) : Sto := fun b => if b = a then Option.none else σ b
theorem drp_ne (σ : Sto) {a b : Addr} (h : b ≠ a) : drp σ a b = σ b := by unfold drp; rw [if_neg h]
theorem drp_self (σ : Sto) (a : Addr) : drp σ a a = Option.none := by unfold drp; rw [if_pos rfl]
section
variable {B : Bs} {fc : FC} {R R' : Rm} {env : Env} {A : Around}
theorem mv_drp {σ : Sto} {s : Shared} {a : Addr} {o : AObj} {h' : Heap} {t : Nat} (rh : RH B σ s) (ho : σ a = some o) (k : ∀ b ob, b ≠ a → s.heap.get? b = some ob → h'.get? b = some ob) (hz : s.heap.objs.size ≤ h'.objs.size) :
    RH B (drp σ a) { s with heap := h', toks := t } ∧ Ext NoW σ s (drp σ a) { s with heap := h', toks := t } := by
  have x : Ext NoW σ s (drp σ a) { s with heap := h', toks := t } := ⟨fun b ob h1 _ e => ⟨ob, k b ob (fun z => by rw [z, ho] at h1; cases h1) e, .refl ob⟩, fun b h1 h2 => by
    by_cases q : b = a
    · rw [q, drp_self] at h2; exact absurd rfl h2
    · rw [drp_ne _ q] at h2; exact absurd h1 h2, hz, fun _ _ h => h.elim⟩
  refine ⟨⟨fun b ob e => k b ob (fun z => ?_) (rh.old b ob e), rh.gens, rh.os, fun b ob e => ?_, fun b hb => ?_, Nat.le_trans rh.size hz⟩, x⟩
  · have h1 := rh.new a (by rw [ho]; exact fun z => nomatch z)
    rw [z] at e
    exact absurd (Heap.lt_size e) (Nat.not_lt.mpr h1)
  · by_cases q : b = a
    · rw [q, drp_self] at e; cases e
    · rw [drp_ne _ q] at e
      exact (rh.sto b ob e).move x fun ob' e' => k b ob' q e'
  · by_cases q : b = a
    · rw [q, drp_self] at hb; exact absurd rfl hb
    · rw [drp_ne _ q] at hb; exact rh.new b hb

noncomputable def oIter : List AV → OD := fun as σ Q _ => Ex2 fun l xs => An3 (as = [.ptr l]) (σ l = some (.list xs)) (∀ I, σ I = Option.none → Q (.ptr I) (upd σ I (.liter l 0)))
theorem semIter : SemOn B R (fun vs => call (.builtin "iter") vs) oIter := by
  rintro A σ s as vs Q X ao rh r ⟨l, xs, rfl, e, hq⟩
  obtain ⟨v1, w1, rfl, h1, h3⟩ := r
  cases h1; cases h3
  obtain ⟨vs, n, e', r⟩ := rh.sto _ _ e
  refine Calls.call_function_entry (by decide +kernel) (by decide +kernel) kdk_entry_iter (kdk_args_iter _) ?_
  unfold Builtin.«iter»
  refine wpAny_bind (m := someArgs "iter" 1 2 _) (wpAny_of_eq (a := [Value.ref l]) (by first | rfl | kernel_rfl!) ?_)
  show wpAny _ _ (pyIter (.ref l) >>= _) _ _ _
  refine wpAny_bind (wpAny_pyIter_list ⟨_, e', rfl, n, rfl⟩ (wpAny_pure ⟨_, rfl, ?_⟩))
  have hσ := rh.freshN (Nat.le_refl s.heap.objs.size)
  obtain ⟨h1, h2⟩ := mvPush rh (litO l 0) s.toks
  obtain ⟨h3, h4⟩ := track (o := .liter l 0) h1 h2 (Nat.le_refl _) hσ rh.size (Heap.get?_push_size _ rfl) (nImm (n := "list_iterator") rfl (by decide)) (Heap.get?_push_size _ rfl)
  exact ⟨.ptr _, _, h3, h4, rfl, hq _ hσ⟩
noncomputable def oNxA : AV → OD := fun a σ Q _ => Ex3 fun I l i => An3 (a = .ptr I) (σ I = some (.liter l i)) (Q (.wrap I) σ)
theorem semNxA : SemO1 B R (fun v => getAttr v (Str.ofString "__next__") true) oNxA := by
  rintro A σ s a v Q X ao rh ra ⟨I, l, i, rfl, e, hq⟩
  cases ra
  have e' := rh.sto _ _ e
  obtain ⟨h1, h2⟩ := mvPush rh (wrpO I) (s.toks + 1)
  obtain ⟨hp, g, d, t, os⟩ := s
  exact nx_attr (sl := #[]) e' ⟨.wrap I, σ, h1, h2, ⟨_, rfl, Heap.get?_push_size _ rfl, rh.freshN (Nat.le_refl _)⟩, hq⟩
noncomputable def EWrap (a : ED) : ED := fun st Q X => a st (fun v st => ∃ I l i xs, v = .wrap I ∧ st.σ I = some (.liter l i) ∧ st.σ l = some (.list xs) ∧
  (∀ x, xs[i]? = some x → Q x ⟨st.m, upd st.σ I (.liter l (i + 1))⟩) ∧ (xs[i]? = Option.none → X ⟨.type "StopIteration", []⟩ ⟨st.m, drp st.σ I⟩)) X
theorem xcls_stop : XCls (.type "StopIteration") := ⟨by decide, by decide, by decide, by decide, by decide⟩
theorem chk_next (a : Value) : checkBoundCall "list_iterator.__next__" ⟨[a], []⟩ = pure () := by kernel_rfl
theorem litO_up (l : Addr) (i : Nat) : Obj.mapFields (·.setIfInBounds 1 (rawInt ((i : Int) + 1))) (litO l i) = litO l (i + 1) := by
  simp [Obj.mapFields, litO, rawInt]
theorem SemE_wrapCall {o i : Expr} {p pos : Pos} {a : ED} (hR : R.he = Option.none) (h : SemE B fc R (.Subscript o i p) a) : SemE B fc R (.Call (.Subscript o i p) [] [] pos) (EWrap a) := by
  intro env A st s Q X S d
  show wpAny B.M A (eval (.Subscript o i p) env >>= fun f => callWith pos f [] (backTo pos (starEach [] env)) (backToKw pos (keywordEach [] env))) _ _ s
  refine wpAny_bind (wpAny_mono (h env A st s _ X S d) ?_ fun _ _ e => e)
  refine fun v s₁ => PV.el fun av st₁ S₁ x₁ r₁ qq => ?_
  obtain ⟨I, l, i, xs, rfl, eI, el, hit, hend⟩ := qq
  obtain ⟨q, rfl, hq, hqn⟩ := r₁
  have hI := S₁.rh.sto _ _ eI
  obtain ⟨vs, n, hl, rl⟩ := S₁.rh.sto _ _ el
  refine callWith_of (P := fun h => h.get? q = some (wrpO I)) rfl (fun h hh => ⟨.machine, .inr (.inl rfl), (Looks.ld (part := none) hh).andThen .now⟩) (evalArgs_nil3 ⟨hq, ?_⟩)
  refine wpAny_call (codeAny_of_tree ?_)
  show wpAny _ _ (callAny (.ref q) _) _ _ _
  refine nd_load hq ?_
  show wpAny _ _ (checkBoundCall "list_iterator.__next__" ⟨[.ref I], []⟩ >>= fun _ => again (.builtin "list_iterator.__next__" ⟨[.ref I], []⟩)) _ _ _
  rw [chk_next]
  refine wpAny_bind (wpAny_pure (wpAny_pure ⟨Code.quiet_builtin _ (by decide +kernel), codeAny_builtin entry_listiter_next ?_⟩))
  show wpAny _ _ (field (.ref I) 0 >>= _) _ _ _
  refine wpAny_bind (wpAny_field hI rfl (x := .ref l) rfl ?_)
  show wpAny _ _ (if (Value.ref l == Value.none) = true then _ else _) _ _ _
  rw [if_neg (show ¬ ((Value.ref l == Value.none) = true) from Bool.false_ne_true)]
  show wpAny _ _ (field (.ref I) 1 >>= _) _ _ _
  refine wpAny_bind (wpAny_field hI rfl (x := .int i 0) rfl ?_)
  show wpAny _ _ (seqItems? (.ref l) >>= _) _ _ _
  refine wpAny_bind (wpAny_seqItems hl rfl ?_)
  cases hx : xs[i]? with
  | some x =>
    obtain ⟨v, hv, rv⟩ := rl.get hx
    have hv' : vs.toArray[i]? = some v := by simpa using hv
    simp only [Int.toNat_natCast, hv']
    refine wpAny_bind (wpAny_setField hI rfl (by simp) (wpAny_pure ?_))
    have sb := Heap.SameBut.update s₁.heap I (Obj.mapFields (·.setIfInBounds 1 (rawInt ((i : Int) + 1))))
    have y := ext_upd (o' := .liter l (i + 1)) (t := s₁.toks) eI sb
    have rh' : RH B (upd st₁.σ I (.liter l (i + 1))) { s₁ with heap := s₁.heap.update I (Obj.mapFields (·.setIfInBounds 1 (rawInt ((i : Int) + 1)))) } := rh_upd (t := s₁.toks) S₁.rh eI sb ((Heap.get?_update_self _ hI (by rw [litO_up]; rfl)).trans (by rw [litO_up]))
    exact PV.mk _ _ (S₁.op rh' y) (x₁.trans (S₁.extW y)) (RelV.ext y _ rv) (hit x hx)
  | none =>
    have hv' : vs.toArray[i]? = none := by simpa [rl.length] using hx
    simp only [Int.toNat_natCast, hv']
    refine wpAny_bind (wpAny_rule (wpAny_bind (wpAny_setField hI rfl (by simp) ?_)))
    show wpAny _ _ (newExc (.type "StopIteration") [] >>= _) _ _ _
    refine wpAny_bind ?_
    simp only [newExc, newTuple]
    refine wpAny_bind (wpAny_newObj_type ?_ (by size_fits))
    refine wpAny_bind (m := firstArgMember _ _) (wpAny_of_eq (a := Value.none) (by first | rfl | (simp only [firstArgMember]; rfl)) ?_)
    refine wpAny_newObj_type ?_ (by size_fits)
    have hh := handled_none hR S₁.ao
    refine wpAny_raiseNew_none (show (A.under _).handled = none from hh) ?_
    have hz := upd_size s₁.heap I (Obj.mapFields (·.setIfInBounds 0 Value.none))
    generalize hH : s₁.heap.update I (Obj.mapFields (·.setIfInBounds 0 Value.none)) = H at hz ⊢
    have hk : ∀ b ob, b ≠ I → s₁.heap.get? b = some ob → H.get? b = some ob := fun b ob hb e => by rw [← hH, Heap.get?_update_other _ _ (Ne.symm hb)]; exact e
    have h1 : (H.push (tupO [])).get? H.objs.size = some (tupO []) := Heap.get?_push_size _ rfl
    have hz1 : (H.push (tupO [])).objs.size = H.objs.size + 1 := Heap.size_push ..
    show PX B fc env A R st s X (.ref (H.push (tupO [])).objs.size) _
    have m1 : ∀ ob, ob.isFreed = false → ((H.push (tupO [])).push ob).get? (H.push (tupO [])).objs.size = some ob := fun ob ho => Heap.get?_push_size _ ho
    have m2 : ∀ ob, ((H.push (tupO [])).push ob).objs.size = H.objs.size + 2 := fun ob => by rw [Heap.size_push, hz1]
    have fin : ∀ ob, ob.isFreed = false → ob.cls = .type "StopIteration" → (∃ vs : Array Value, ob.data = .fields vs ∧ vs[0]? = some (.ref H.objs.size) ∧ vs[1]? = some .none ∧ vs[2]? = some .none) →
        PX B fc env A R st s X (.ref (H.push (tupO [])).objs.size) { s₁ with heap := (H.push (tupO [])).push ob } := by
      rintro ob hf hc ⟨vs', hd, v0, v1, v2⟩
      obtain ⟨rh', y⟩ := mv_drp (t := s₁.toks) (h' := (H.push (tupO [])).push ob) S₁.rh eI (fun b ob' hb e => Heap.get?_push_of_some _ (Heap.get?_push_of_some _ (hk b ob' hb e))) (by rw [m2]; omega)
      have nw : ∀ b, s₁.heap.objs.size ≤ b → drp st₁.σ I b = Option.none := fun b hb => by
        unfold drp; split
        · rfl
        · exact S₁.rh.freshN hb
      exact ⟨⟨.type "StopIteration", []⟩, _, S₁.op rh' y, x₁.trans (S₁.extW y), ⟨_, ob, vs', .ref H.objs.size, rfl, m1 ob hf, hc, hd, v0, ⟨_, [], rfl, Heap.get?_push_of_some _ h1, nw _ (by omega), rfl⟩, v2, nw _ (by omega), by have := x₁.size; omega, hc ▸ xcls_stop, .inl v1⟩, hend hx⟩
    exact fin _ rfl rfl ⟨_, rfl, rfl, rfl, rfl⟩

noncomputable def EArgV (ea : Addr) (y : AX) (a : ED) : ED := fun st Q X => a st (fun v st => v = .con (.ref ea) ∧ y.cls = .type "ValueError" ∧ Q (.tup y.args) st) X
end
end Mine
section
set_option maxHeartbeats 4000000
-- K0
namespace Mine
noncomputable abbrev pw : Program := PySem.Challenge.pw_mj0232_02
noncomputable def stIn : List Nat → List Stmt → Option Stmt
  | [], _ => none
  | [i], l => l[i]?
  | i :: r, l => match l[i]? with
    | some (.ClassDef _ _ _ b _ _ _ _ _ _ _) => stIn r b
    | _ => none
noncomputable def fP (is : List Nat) : Arguments := match stIn is pw.main.body with
  | some (.FunctionDef _ a _ _ _ _ _ _ _ _) => a
  | _ => default
noncomputable def fB (is : List Nat) : FuncBody := match stIn is pw.main.body with
  | some (.FunctionDef _ _ b _ _ _ _ _ _ _) => .stmts b
  | _ => default
noncomputable def fS (is : List Nat) : Scope := match stIn is pw.main.body with
  | some (.FunctionDef _ _ _ _ _ _ s _ _ _) => s
  | _ => default
noncomputable def KK (P : Params) : Frag := [
  (2, { cls := Value.none, data := Data.dict #[] }),
  (3, { cls := Value.type "dict",  data :=  Data.dict  #[{ hash := PyData.keyHash P (Str.ofString "__name__"), key := Value.str (Str.ofString "__name__") 165,  val := Value.str (Str.ofString "law_mj0232_02") 428 },  { hash := PyData.keyHash P (Str.ofString "__doc__"), key := Value.str (Str.ofString "__doc__") 166,  val := Value.none },  { hash := PyData.keyHash P (Str.ofString "__package__"), key := Value.str (Str.ofString "__package__") 167,  val := Value.none },  { hash := PyData.keyHash P (Str.ofString "__loader__"), key := Value.str (Str.ofString "__loader__") 168,  val := Value.builtin "__main__.__loader__#opaque" },  { hash := PyData.keyHash P (Str.ofString "__spec__"), key := Value.str (Str.ofString "__spec__") 169,  val := Value.none },  { hash := PyData.keyHash P (Str.ofString "__annotations__"),  key := Value.str (Str.ofString "__annotations__") 170, val := Value.ref 6 },  { hash := PyData.keyHash P (Str.ofString "__builtins__"), key := Value.str (Str.ofString "__builtins__") 171,  val := Value.ref 4 },  { hash := PyData.keyHash P (Str.ofString "__file__"), key := Value.str (Str.ofString "__file__") 173,  val := Value.str (Str.ofString "/claim/cut.py") 172 },  { hash := PyData.keyHash P (Str.ofString "__cached__"), key := Value.str (Str.ofString "__cached__") 174,  val := Value.none },  { hash := PyData.keyHash P (Str.ofString "_wall"), key := Value.str (Str.ofString "_wall") 193,  val := Value.ref 21 },  { hash := PyData.keyHash P (Str.ofString "heappush"), key := Value.str (Str.ofString "heappush") 203,  val := Value.ref 28 },  { hash := PyData.keyHash P (Str.ofString "heappop"), key := Value.str (Str.ofString "heappop") 212,  val := Value.ref 35 },  { hash := PyData.keyHash P (Str.ofString "heappushpop"), key := Value.str (Str.ofString "heappushpop") 220,  val := Value.ref 42 },  { hash := PyData.keyHash P (Str.ofString "_siftdown"), key := Value.str (Str.ofString "_siftdown") 232,  val := Value.ref 49 },  { hash := PyData.keyHash P (Str.ofString "_siftup"), key := Value.str (Str.ofString "_siftup") 245,  val := Value.ref 56 },  { hash := PyData.keyHash P (Str.ofString "_NODE_OUT"), key := Value.str (Str.ofString "_NODE_OUT") 250,  val := Value.int (-1) 249 },  { hash := PyData.keyHash P (Str.ofString "_NODE_DONE"), key := Value.str (Str.ofString "_NODE_DONE") 253,  val := Value.int (-2) 252 },  { hash := PyData.keyHash P (Str.ofString "_NodeInfo"), key := Value.str (Str.ofString "_NodeInfo") 290,  val := Value.ref 75 },  { hash := PyData.keyHash P (Str.ofString "CycleError"), key := Value.str (Str.ofString "CycleError") 308,  val := Value.ref 90 },  { hash := PyData.keyHash P (Str.ofString "TopologicalSorter"),  key := Value.str (Str.ofString "TopologicalSorter") 427, val := Value.ref 172 },  { hash := PyData.keyHash P (Str.ofString "_law_dealt"), key := Value.str (Str.ofString "_law_dealt") 435,  val := Value.ref 181 },  { hash := PyData.keyHash P (Str.ofString "_law_steps"), key := Value.str (Str.ofString "_law_steps") 447,  val := Value.ref 188 },  { hash := PyData.keyHash P (Str.ofString "_law_able"), key := Value.str (Str.ofString "_law_able") 453,  val := Value.ref 193 },  { hash := PyData.keyHash P (Str.ofString "_law_is_ring"), key := Value.str (Str.ofString "_law_is_ring") 459,  val := Value.ref 198 },  { hash := PyData.keyHash P (Str.ofString "_law_run"), key := Value.str (Str.ofString "_law_run") 471,  val := Value.ref 205 },  { hash := PyData.keyHash P (Str.ofString "law"), key := Value.str (Str.ofString "law") 477,  val := Value.ref 210 }]  26 }),
  (15, { cls := Value.type "tuple", data := Data.seq #[] }),
  (17, { cls := Value.type "tuple", data := Data.seq #[Value.str (Str.ofString "k") 190] }),
  (18, { cls := Value.type "tuple", data := Data.seq #[] }),
  (20, { cls := Value.type "code",  data :=  Data.fields  #[Value.str (Str.ofString "_wall") 187, Value.str (Str.ofString "_wall") 188,  Value.str (Str.ofString "/claim/cut.py") 189, Value.int 1 0, Value.int 1 0, Value.int 0 0, Value.int 0 0,  Value.int 3 0, Value.ref 15, Value.bool true, Value.int 181 0, Value.ref 16, Value.none, Value.ref 17,  Value.ref 18, Value.ref 19, Value.int 191 0, Value.int 1 0, Value.str (Str.ofString "/claim/cut.py") 192] }),
  (21, { cls := Value.type "function",  data :=  Data.func  { name := Str.ofString "_wall", qualname := Str.ofString "_wall", params := fP [0], body := fB [0],  scope := fS [0], globals := 3, closure := [], defaults := Value.none, kwdefaults := Value.none,  pyModule := Value.str (Str.ofString "__main__") 164, code := Value.ref 20 } }),
  (22, { cls := Value.type "tuple", data := Data.seq #[] }),
  (24, { cls := Value.type "tuple",  data := Data.seq #[Value.str (Str.ofString "heap") 199, Value.str (Str.ofString "item") 200] }),
  (25, { cls := Value.type "tuple", data := Data.seq #[] }),
  (27, { cls := Value.type "code",  data :=  Data.fields  #[Value.str (Str.ofString "heappush") 196, Value.str (Str.ofString "heappush") 197,  Value.str (Str.ofString "/claim/cut.py") 198, Value.int 5 0, Value.int 2 0, Value.int 0 0, Value.int 0 0,  Value.int 3 0, Value.ref 22, Value.bool true, Value.int 181 0, Value.ref 23, Value.none, Value.ref 24,  Value.ref 25, Value.ref 26, Value.int 201 0, Value.int 5 0, Value.str (Str.ofString "/claim/cut.py") 202] }),
  (28, { cls := Value.type "function",  data :=  Data.func  { name := Str.ofString "heappush", qualname := Str.ofString "heappush", params := fP [2], body := fB [2],  scope := fS [2], globals := 3, closure := [], defaults := Value.none, kwdefaults := Value.none,  pyModule := Value.str (Str.ofString "cpy313.heapq") 194, code := Value.ref 27 } }),
  (29, { cls := Value.type "tuple", data := Data.seq #[] }),
  (31, { cls := Value.type "tuple",  data :=  Data.seq  #[Value.str (Str.ofString "heap") 207, Value.str (Str.ofString "lastelt") 208,  Value.str (Str.ofString "returnitem") 209] }),
  (32, { cls := Value.type "tuple", data := Data.seq #[] }),
  (34, { cls := Value.type "code",  data :=  Data.fields  #[Value.str (Str.ofString "heappop") 204, Value.str (Str.ofString "heappop") 205,  Value.str (Str.ofString "/claim/cut.py") 206, Value.int 8 0, Value.int 1 0, Value.int 0 0, Value.int 0 0,  Value.int 3 0, Value.ref 29, Value.bool true, Value.int 181 0, Value.ref 30, Value.none, Value.ref 31,  Value.ref 32, Value.ref 33, Value.int 210 0, Value.int 8 0, Value.str (Str.ofString "/claim/cut.py") 211] }),
  (35, { cls := Value.type "function",  data :=  Data.func  { name := Str.ofString "heappop", qualname := Str.ofString "heappop", params := fP [3], body := fB [3],  scope := fS [3], globals := 3, closure := [], defaults := Value.none, kwdefaults := Value.none,  pyModule := Value.str (Str.ofString "cpy313.heapq") 194, code := Value.ref 34 } }),
  (36, { cls := Value.type "tuple", data := Data.seq #[] }),
  (38, { cls := Value.type "tuple",  data := Data.seq #[Value.str (Str.ofString "heap") 216, Value.str (Str.ofString "item") 217] }),
  (39, { cls := Value.type "tuple", data := Data.seq #[] }),
  (41, { cls := Value.type "code",  data :=  Data.fields  #[Value.str (Str.ofString "heappushpop") 213, Value.str (Str.ofString "heappushpop") 214,  Value.str (Str.ofString "/claim/cut.py") 215, Value.int 16 0, Value.int 2 0, Value.int 0 0, Value.int 0 0,  Value.int 3 0, Value.ref 36, Value.bool true, Value.int 181 0, Value.ref 37, Value.none, Value.ref 38,  Value.ref 39, Value.ref 40, Value.int 218 0, Value.int 16 0, Value.str (Str.ofString "/claim/cut.py") 219] }),
  (42, { cls := Value.type "function",  data :=  Data.func  { name := Str.ofString "heappushpop", qualname := Str.ofString "heappushpop", params := fP [4], body := fB [4],  scope := fS [4], globals := 3, closure := [], defaults := Value.none, kwdefaults := Value.none,  pyModule := Value.str (Str.ofString "cpy313.heapq") 194, code := Value.ref 41 } }),
  (43, { cls := Value.type "tuple", data := Data.seq #[] }),
  (45, { cls := Value.type "tuple",  data :=  Data.seq  #[Value.str (Str.ofString "heap") 224, Value.str (Str.ofString "startpos") 225,  Value.str (Str.ofString "pos") 226, Value.str (Str.ofString "newitem") 227,  Value.str (Str.ofString "parentpos") 228, Value.str (Str.ofString "parent") 229] }),
  (46, { cls := Value.type "tuple", data := Data.seq #[] }),
  (48, { cls := Value.type "code",  data :=  Data.fields  #[Value.str (Str.ofString "_siftdown") 221, Value.str (Str.ofString "_siftdown") 222,  Value.str (Str.ofString "/claim/cut.py") 223, Value.int 21 0, Value.int 3 0, Value.int 0 0, Value.int 0 0,  Value.int 3 0, Value.ref 43, Value.bool true, Value.int 181 0, Value.ref 44, Value.none, Value.ref 45,  Value.ref 46, Value.ref 47, Value.int 230 0, Value.int 21 0, Value.str (Str.ofString "/claim/cut.py") 231] }),
  (49, { cls := Value.type "function",  data :=  Data.func  { name := Str.ofString "_siftdown", qualname := Str.ofString "_siftdown", params := fP [5], body := fB [5],  scope := fS [5], globals := 3, closure := [], defaults := Value.none, kwdefaults := Value.none,  pyModule := Value.str (Str.ofString "cpy313.heapq") 194, code := Value.ref 48 } }),
  (50, { cls := Value.type "tuple", data := Data.seq #[] }),
  (52, { cls := Value.type "tuple",  data :=  Data.seq  #[Value.str (Str.ofString "heap") 236, Value.str (Str.ofString "pos") 237, Value.str (Str.ofString "endpos") 238,  Value.str (Str.ofString "startpos") 239, Value.str (Str.ofString "newitem") 240,  Value.str (Str.ofString "childpos") 241, Value.str (Str.ofString "rightpos") 242] }),
  (53, { cls := Value.type "tuple", data := Data.seq #[] }),
  (55, { cls := Value.type "code",  data :=  Data.fields  #[Value.str (Str.ofString "_siftup") 233, Value.str (Str.ofString "_siftup") 234,  Value.str (Str.ofString "/claim/cut.py") 235, Value.int 32 0, Value.int 2 0, Value.int 0 0, Value.int 0 0,  Value.int 3 0, Value.ref 50, Value.bool true, Value.int 181 0, Value.ref 51, Value.none, Value.ref 52,  Value.ref 53, Value.ref 54, Value.int 243 0, Value.int 32 0, Value.str (Str.ofString "/claim/cut.py") 244] }),
  (56, { cls := Value.type "function",  data :=  Data.func  { name := Str.ofString "_siftup", qualname := Str.ofString "_siftup", params := fP [6], body := fB [6],  scope := fS [6], globals := 3, closure := [], defaults := Value.none, kwdefaults := Value.none,  pyModule := Value.str (Str.ofString "cpy313.heapq") 194, code := Value.ref 55 } }),
  (64, { cls := Value.type "tuple",  data :=  Data.seq  #[Value.str (Str.ofString "node") 266, Value.str (Str.ofString "npredecessors") 267,  Value.str (Str.ofString "successors") 268] }),
  (65, { cls := Value.type "tuple", data := Data.seq #[] }),
  (67, { cls := Value.type "tuple",  data := Data.seq #[Value.str (Str.ofString "self") 273, Value.str (Str.ofString "node") 274] }),
  (68, { cls := Value.type "tuple", data := Data.seq #[] }),
  (70, { cls := Value.type "code",  data :=  Data.fields  #[Value.str (Str.ofString "__init__") 270, Value.str (Str.ofString "_NodeInfo.__init__") 271,  Value.str (Str.ofString "/claim/cut.py") 272, Value.int 52 0, Value.int 2 0, Value.int 0 0, Value.int 0 0,  Value.int 3 0, Value.ref 65, Value.bool true, Value.int 181 0, Value.ref 66, Value.none, Value.ref 67,  Value.ref 68, Value.ref 69, Value.int 275 0, Value.int 52 0, Value.str (Str.ofString "/claim/cut.py") 276] }),
  (71, { cls := Value.type "function",  data :=  Data.func  { name := Str.ofString "__init__", qualname := Str.ofString "_NodeInfo.__init__", params := fP [10, 1],  body := fB [10, 1], scope := fS [10, 1], globals := 3, closure := [], defaults := Value.none,  kwdefaults := Value.none, pyModule := Value.str (Str.ofString "cpy313.graphlib") 246, code := Value.ref 70 } }),
  (72, { cls := Value.type "tuple",  data :=  Data.seq  #[Value.str (Str.ofString "node") 278, Value.str (Str.ofString "npredecessors") 279,  Value.str (Str.ofString "successors") 280] }),
  (74, { cls := Value.type "dict",  data :=  Data.dict  #[{ hash := PyData.keyHash P (Str.ofString "__module__"), key := Value.str (Str.ofString "__module__") 261,  val := Value.str (Str.ofString "cpy313.graphlib") 246 },  { hash := PyData.keyHash P (Str.ofString "__firstlineno__"),  key := Value.str (Str.ofString "__firstlineno__") 265, val := Value.int 49 264 },  { hash := PyData.keyHash P (Str.ofString "__slots__"), key := Value.str (Str.ofString "__slots__") 269,  val := Value.ref 64 },  { hash := PyData.keyHash P (Str.ofString "__init__"), key := Value.str (Str.ofString "__init__") 277,  val := Value.ref 71 },  { hash := PyData.keyHash P (Str.ofString "__static_attributes__"),  key := Value.str (Str.ofString "__static_attributes__") 281, val := Value.ref 72 },  { hash := PyData.keyHash P (Str.ofString "node"), key := Value.str (Str.ofString "node") 283,  val := Value.ref 76 },  { hash := PyData.keyHash P (Str.ofString "npredecessors"), key := Value.str (Str.ofString "npredecessors") 285,  val := Value.ref 77 },  { hash := PyData.keyHash P (Str.ofString "successors"), key := Value.str (Str.ofString "successors") 287,  val := Value.ref 78 },  { hash := PyData.keyHash P (Str.ofString "__doc__"), key := Value.str (Str.ofString "__doc__") 288,  val := Value.none }]  5 }),
  (75, { cls := Value.type "type",  data :=  Data.cls  { name := Str.ofString "_NodeInfo", bases := [Value.type "object"], mro := [Value.ref 75, Value.type "object"],  ns := 74, qualname := Str.ofString "_NodeInfo", hasDict := false,  slotNames := [Str.ofString "node", Str.ofString "npredecessors", Str.ofString "successors"] },  slots :=  #[none, none, some (Value.str (Str.ofString "_NodeInfo") 254), some (Value.str (Str.ofString "_NodeInfo") 262),  some (Value.builtin "object.__new__"), some (Value.bool false)] }),
  (76, { cls := Value.type "member_descriptor",  data :=  Data.fields  #[Value.str (Str.ofString "node") 282, Value.ref 75, Value.builtin "proto.slot", Value.builtin "proto.slot#set",  Value.int 2 0] }),
  (77, { cls := Value.type "member_descriptor",  data :=  Data.fields  #[Value.str (Str.ofString "npredecessors") 284, Value.ref 75, Value.builtin "proto.slot",  Value.builtin "proto.slot#set", Value.int 1 0] }),
  (78, { cls := Value.type "member_descriptor",  data :=  Data.fields  #[Value.str (Str.ofString "successors") 286, Value.ref 75, Value.builtin "proto.slot",  Value.builtin "proto.slot#set", Value.int 0 0] }),
  (81, { cls := Value.type "tuple", data := Data.seq #[Value.type "ValueError"] }),
  (88, { cls := Value.type "tuple", data := Data.seq #[] }),
  (89, { cls := Value.type "dict",  data :=  Data.dict  #[{ hash := PyData.keyHash P (Str.ofString "__module__"), key := Value.str (Str.ofString "__module__") 298,  val := Value.str (Str.ofString "cpy313.graphlib") 246 },  { hash := PyData.keyHash P (Str.ofString "__firstlineno__"),  key := Value.str (Str.ofString "__firstlineno__") 302, val := Value.int 56 301 },  { hash := PyData.keyHash P (Str.ofString "__static_attributes__"),  key := Value.str (Str.ofString "__static_attributes__") 303, val := Value.ref 88 },  { hash := PyData.keyHash P (Str.ofString "__weakref__"), key := Value.str (Str.ofString "__weakref__") 305,  val := Value.ref 91 },  { hash := PyData.keyHash P (Str.ofString "__doc__"), key := Value.str (Str.ofString "__doc__") 306,  val := Value.none }]  3 }),
  (90, { cls := Value.type "type",  data :=  Data.cls  { name := Str.ofString "CycleError", bases := [Value.type "ValueError"],  mro :=  [Value.ref 90, Value.type "ValueError", Value.type "Exception", Value.type "BaseException",  Value.type "object"],  ns := 89, qualname := Str.ofString "CycleError" },  slots :=  #[some (Value.ref 81), none, some (Value.str (Str.ofString "CycleError") 291),  some (Value.str (Str.ofString "CycleError") 299), some (Value.builtin "ValueError.__new__"),  some (Value.bool true)] }),
  (91, { cls := Value.type "getset_descriptor",  data :=  Data.fields  #[Value.str (Str.ofString "__weakref__") 304, Value.ref 90, Value.builtin "ExceptionGroup.__weakref__",  Value.none] }),
  (101, { cls := Value.type "tuple", data := Data.seq #[Value.none] }),
  (102, { cls := Value.type "tuple", data := Data.seq #[] }),
  (104, { cls := Value.type "tuple",  data :=  Data.seq  #[Value.str (Str.ofString "self") 324, Value.str (Str.ofString "graph") 325, Value.str (Str.ofString "node") 326,  Value.str (Str.ofString "predecessors") 327] }),
  (105, { cls := Value.type "tuple", data := Data.seq #[] }),
  (107, { cls := Value.type "code",  data :=  Data.fields  #[Value.str (Str.ofString "__init__") 321, Value.str (Str.ofString "TopologicalSorter.__init__") 322,  Value.str (Str.ofString "/claim/cut.py") 323, Value.int 60 0, Value.int 2 0, Value.int 0 0, Value.int 0 0,  Value.int 3 0, Value.ref 102, Value.bool true, Value.int 181 0, Value.ref 103, Value.none, Value.ref 104,  Value.ref 105, Value.ref 106, Value.int 328 0, Value.int 60 0, Value.str (Str.ofString "/claim/cut.py") 329] }),
  (108, { cls := Value.type "function",  data :=  Data.func  { name := Str.ofString "__init__", qualname := Str.ofString "TopologicalSorter.__init__", params := fP [12, 0],  body := fB [12, 0], scope := fS [12, 0], globals := 3, closure := [], defaults := Value.ref 101,  kwdefaults := Value.none, pyModule := Value.str (Str.ofString "cpy313.graphlib") 246, code := Value.ref 107 } }),
  (109, { cls := Value.type "tuple", data := Data.seq #[] }),
  (111, { cls := Value.type "tuple",  data :=  Data.seq  #[Value.str (Str.ofString "self") 334, Value.str (Str.ofString "node") 335,  Value.str (Str.ofString "result") 336] }),
  (112, { cls := Value.type "tuple", data := Data.seq #[] }),
  (114, { cls := Value.type "code",  data :=  Data.fields  #[Value.str (Str.ofString "_get_nodeinfo") 331, Value.str (Str.ofString "TopologicalSorter._get_nodeinfo") 332,  Value.str (Str.ofString "/claim/cut.py") 333, Value.int 69 0, Value.int 2 0, Value.int 0 0, Value.int 0 0,  Value.int 3 0, Value.ref 109, Value.bool true, Value.int 181 0, Value.ref 110, Value.none, Value.ref 111,  Value.ref 112, Value.ref 113, Value.int 337 0, Value.int 69 0, Value.str (Str.ofString "/claim/cut.py") 338] }),
  (115, { cls := Value.type "function",  data :=  Data.func  { name := Str.ofString "_get_nodeinfo", qualname := Str.ofString "TopologicalSorter._get_nodeinfo",  params := fP [12, 1], body := fB [12, 1], scope := fS [12, 1], globals := 3, closure := [],  defaults := Value.none, kwdefaults := Value.none, pyModule := Value.str (Str.ofString "cpy313.graphlib") 246,  code := Value.ref 114 } }),
  (116, { cls := Value.type "tuple", data := Data.seq #[] }),
  (118, { cls := Value.type "tuple",  data :=  Data.seq  #[Value.str (Str.ofString "self") 343, Value.str (Str.ofString "node") 344,  Value.str (Str.ofString "predecessors") 345, Value.str (Str.ofString "nodeinfo") 346,  Value.str (Str.ofString "pred") 347, Value.str (Str.ofString "pred_info") 348] }),
  (119, { cls := Value.type "tuple", data := Data.seq #[] }),
  (121, { cls := Value.type "code",  data :=  Data.fields  #[Value.str (Str.ofString "add") 340, Value.str (Str.ofString "TopologicalSorter.add") 341,  Value.str (Str.ofString "/claim/cut.py") 342, Value.int 74 0, Value.int 2 0, Value.int 0 0, Value.int 0 0,  Value.int 7 0, Value.ref 116, Value.bool true, Value.int 181 0, Value.ref 117, Value.none, Value.ref 118,  Value.ref 119, Value.ref 120, Value.int 349 0, Value.int 74 0, Value.str (Str.ofString "/claim/cut.py") 350] }),
  (122, { cls := Value.type "function",  data :=  Data.func  { name := Str.ofString "add", qualname := Str.ofString "TopologicalSorter.add", params := fP [12, 2],  body := fB [12, 2], scope := fS [12, 2], globals := 3, closure := [], defaults := Value.none,  kwdefaults := Value.none, pyModule := Value.str (Str.ofString "cpy313.graphlib") 246, code := Value.ref 121 } }),
  (123, { cls := Value.type "tuple", data := Data.seq #[] }),
  (126, { cls := Value.type "code",  data :=  Data.fields  #[Value.str (Str.ofString "prepare") 352, Value.str (Str.ofString "TopologicalSorter.prepare") 353,  Value.str (Str.ofString "/claim/cut.py") 354, Value.int 83 0, Value.int 1 0, Value.int 0 0, Value.int 0 0,  Value.int 3 0, Value.ref 123, Value.bool true, Value.int 181 0, Value.ref 124, Value.none, Value.none,  Value.none, Value.ref 125, Value.int 355 0, Value.int 83 0, Value.str (Str.ofString "/claim/cut.py") 356] }),
  (127, { cls := Value.type "function",  data :=  Data.func  { name := Str.ofString "prepare", qualname := Str.ofString "TopologicalSorter.prepare", params := fP [12, 3],  body := fB [12, 3], scope := fS [12, 3], globals := 3, closure := [], defaults := Value.none,  kwdefaults := Value.none, pyModule := Value.str (Str.ofString "cpy313.graphlib") 246, code := Value.ref 126 } }),
  (128, { cls := Value.type "tuple", data := Data.seq #[] }),
  (130, { cls := Value.type "tuple",  data :=  Data.seq  #[Value.str (Str.ofString "self") 361, Value.str (Str.ofString "result") 362, Value.str (Str.ofString "n2i") 363,  Value.str (Str.ofString "node") 364] }),
  (131, { cls := Value.type "tuple", data := Data.seq #[] }),
  (133, { cls := Value.type "code",  data :=  Data.fields  #[Value.str (Str.ofString "get_ready") 358, Value.str (Str.ofString "TopologicalSorter.get_ready") 359,  Value.str (Str.ofString "/claim/cut.py") 360, Value.int 91 0, Value.int 1 0, Value.int 0 0, Value.int 0 0,  Value.int 3 0, Value.ref 128, Value.bool true, Value.int 181 0, Value.ref 129, Value.none, Value.ref 130,  Value.ref 131, Value.ref 132, Value.int 365 0, Value.int 91 0, Value.str (Str.ofString "/claim/cut.py") 366] }),
  (134, { cls := Value.type "function",  data :=  Data.func  { name := Str.ofString "get_ready", qualname := Str.ofString "TopologicalSorter.get_ready", params := fP [12, 4],  body := fB [12, 4], scope := fS [12, 4], globals := 3, closure := [], defaults := Value.none,  kwdefaults := Value.none, pyModule := Value.str (Str.ofString "cpy313.graphlib") 246, code := Value.ref 133 } }),
  (135, { cls := Value.type "tuple", data := Data.seq #[] }),
  (137, { cls := Value.type "tuple", data := Data.seq #[Value.str (Str.ofString "self") 371] }),
  (138, { cls := Value.type "tuple", data := Data.seq #[] }),
  (140, { cls := Value.type "code",  data :=  Data.fields  #[Value.str (Str.ofString "is_active") 368, Value.str (Str.ofString "TopologicalSorter.is_active") 369,  Value.str (Str.ofString "/claim/cut.py") 370, Value.int 102 0, Value.int 1 0, Value.int 0 0, Value.int 0 0,  Value.int 3 0, Value.ref 135, Value.bool true, Value.int 181 0, Value.ref 136, Value.none, Value.ref 137,  Value.ref 138, Value.ref 139, Value.int 372 0, Value.int 102 0, Value.str (Str.ofString "/claim/cut.py") 373] }),
  (141, { cls := Value.type "function",  data :=  Data.func  { name := Str.ofString "is_active", qualname := Str.ofString "TopologicalSorter.is_active", params := fP [12, 5],  body := fB [12, 5], scope := fS [12, 5], globals := 3, closure := [], defaults := Value.none,  kwdefaults := Value.none, pyModule := Value.str (Str.ofString "cpy313.graphlib") 246, code := Value.ref 140 } }),
  (142, { cls := Value.type "tuple", data := Data.seq #[] }),
  (144, { cls := Value.type "tuple", data := Data.seq #[Value.str (Str.ofString "self") 378] }),
  (145, { cls := Value.type "tuple", data := Data.seq #[] }),
  (147, { cls := Value.type "code",  data :=  Data.fields  #[Value.str (Str.ofString "__bool__") 375, Value.str (Str.ofString "TopologicalSorter.__bool__") 376,  Value.str (Str.ofString "/claim/cut.py") 377, Value.int 107 0, Value.int 1 0, Value.int 0 0, Value.int 0 0,  Value.int 3 0, Value.ref 142, Value.bool true, Value.int 181 0, Value.ref 143, Value.none, Value.ref 144,  Value.ref 145, Value.ref 146, Value.int 379 0, Value.int 107 0, Value.str (Str.ofString "/claim/cut.py") 380] }),
  (148, { cls := Value.type "function",  data :=  Data.func  { name := Str.ofString "__bool__", qualname := Str.ofString "TopologicalSorter.__bool__", params := fP [12, 6],  body := fB [12, 6], scope := fS [12, 6], globals := 3, closure := [], defaults := Value.none,  kwdefaults := Value.none, pyModule := Value.str (Str.ofString "cpy313.graphlib") 246, code := Value.ref 147 } }),
  (149, { cls := Value.type "tuple", data := Data.seq #[] }),
  (151, { cls := Value.type "tuple",  data :=  Data.seq  #[Value.str (Str.ofString "self") 385, Value.str (Str.ofString "nodes") 386, Value.str (Str.ofString "n2i") 387,  Value.str (Str.ofString "node") 388, Value.str (Str.ofString "nodeinfo") 389,  Value.str (Str.ofString "stat") 390, Value.str (Str.ofString "successor") 391,  Value.str (Str.ofString "successor_info") 392] }),
  (152, { cls := Value.type "tuple", data := Data.seq #[] }),
  (154, { cls := Value.type "code",  data :=  Data.fields  #[Value.str (Str.ofString "done") 382, Value.str (Str.ofString "TopologicalSorter.done") 383,  Value.str (Str.ofString "/claim/cut.py") 384, Value.int 110 0, Value.int 1 0, Value.int 0 0, Value.int 0 0,  Value.int 7 0, Value.ref 149, Value.bool true, Value.int 181 0, Value.ref 150, Value.none, Value.ref 151,  Value.ref 152, Value.ref 153, Value.int 393 0, Value.int 110 0, Value.str (Str.ofString "/claim/cut.py") 394] }),
  (155, { cls := Value.type "function",  data :=  Data.func  { name := Str.ofString "done", qualname := Str.ofString "TopologicalSorter.done", params := fP [12, 7],  body := fB [12, 7], scope := fS [12, 7], globals := 3, closure := [], defaults := Value.none,  kwdefaults := Value.none, pyModule := Value.str (Str.ofString "cpy313.graphlib") 246, code := Value.ref 154 } }),
  (156, { cls := Value.type "tuple", data := Data.seq #[] }),
  (158, { cls := Value.type "tuple",  data :=  Data.seq  #[Value.str (Str.ofString "self") 399, Value.str (Str.ofString "n2i") 400, Value.str (Str.ofString "stack") 401,  Value.str (Str.ofString "itstack") 402, Value.str (Str.ofString "seen") 403,  Value.str (Str.ofString "node2stacki") 404, Value.str (Str.ofString "node") 405] }),
  (159, { cls := Value.type "tuple", data := Data.seq #[] }),
  (161, { cls := Value.type "code",  data :=  Data.fields  #[Value.str (Str.ofString "_find_cycle") 396, Value.str (Str.ofString "TopologicalSorter._find_cycle") 397,  Value.str (Str.ofString "/claim/cut.py") 398, Value.int 133 0, Value.int 1 0, Value.int 0 0, Value.int 0 0,  Value.int 3 0, Value.ref 156, Value.bool true, Value.int 181 0, Value.ref 157, Value.none, Value.ref 158,  Value.ref 159, Value.ref 160, Value.int 406 0, Value.int 133 0, Value.str (Str.ofString "/claim/cut.py") 407] }),
  (162, { cls := Value.type "function",  data :=  Data.func  { name := Str.ofString "_find_cycle", qualname := Str.ofString "TopologicalSorter._find_cycle",  params := fP [12, 8], body := fB [12, 8], scope := fS [12, 8], globals := 3, closure := [],  defaults := Value.none, kwdefaults := Value.none, pyModule := Value.str (Str.ofString "cpy313.graphlib") 246,  code := Value.ref 161 } }),
  (163, { cls := Value.type "tuple", data := Data.seq #[] }),
  (165, { cls := Value.type "tuple", data := Data.seq #[Value.str (Str.ofString "self") 412] }),
  (166, { cls := Value.type "tuple", data := Data.seq #[] }),
  (168, { cls := Value.type "code",  data :=  Data.fields  #[Value.str (Str.ofString "static_order") 409, Value.str (Str.ofString "TopologicalSorter.static_order") 410,  Value.str (Str.ofString "/claim/cut.py") 411, Value.int 162 0, Value.int 1 0, Value.int 0 0, Value.int 0 0,  Value.int 3 0, Value.ref 163, Value.bool true, Value.int 181 0, Value.ref 164, Value.none, Value.ref 165,  Value.ref 166, Value.ref 167, Value.int 413 0, Value.int 162 0, Value.str (Str.ofString "/claim/cut.py") 414] }),
  (169, { cls := Value.type "function",  data :=  Data.func  { name := Str.ofString "static_order", qualname := Str.ofString "TopologicalSorter.static_order",  params := fP [12, 9], body := fB [12, 9], scope := fS [12, 9], globals := 3, closure := [],  defaults := Value.none, kwdefaults := Value.none, pyModule := Value.str (Str.ofString "cpy313.graphlib") 246,  code := Value.ref 168 } }),
  (170, { cls := Value.type "tuple",  data :=  Data.seq  #[Value.str (Str.ofString "_nfinished") 416, Value.str (Str.ofString "_node2info") 417,  Value.str (Str.ofString "_npassedout") 418, Value.str (Str.ofString "_ready_nodes") 419] }),
  (171, { cls := Value.type "dict",  data :=  Data.dict  #[{ hash := PyData.keyHash P (Str.ofString "__module__"), key := Value.str (Str.ofString "__module__") 316,  val := Value.str (Str.ofString "cpy313.graphlib") 246 },  { hash := PyData.keyHash P (Str.ofString "__firstlineno__"),  key := Value.str (Str.ofString "__firstlineno__") 320, val := Value.int 58 319 },  { hash := PyData.keyHash P (Str.ofString "__init__"), key := Value.str (Str.ofString "__init__") 330,  val := Value.ref 108 },  { hash := PyData.keyHash P (Str.ofString "_get_nodeinfo"), key := Value.str (Str.ofString "_get_nodeinfo") 339,  val := Value.ref 115 },  { hash := PyData.keyHash P (Str.ofString "add"), key := Value.str (Str.ofString "add") 351,  val := Value.ref 122 },  { hash := PyData.keyHash P (Str.ofString "prepare"), key := Value.str (Str.ofString "prepare") 357,  val := Value.ref 127 },  { hash := PyData.keyHash P (Str.ofString "get_ready"), key := Value.str (Str.ofString "get_ready") 367,  val := Value.ref 134 },  { hash := PyData.keyHash P (Str.ofString "is_active"), key := Value.str (Str.ofString "is_active") 374,  val := Value.ref 141 },  { hash := PyData.keyHash P (Str.ofString "__bool__"), key := Value.str (Str.ofString "__bool__") 381,  val := Value.ref 148 },  { hash := PyData.keyHash P (Str.ofString "done"), key := Value.str (Str.ofString "done") 395,  val := Value.ref 155 },  { hash := PyData.keyHash P (Str.ofString "_find_cycle"), key := Value.str (Str.ofString "_find_cycle") 408,  val := Value.ref 162 },  { hash := PyData.keyHash P (Str.ofString "static_order"), key := Value.str (Str.ofString "static_order") 415,  val := Value.ref 169 },  { hash := PyData.keyHash P (Str.ofString "__static_attributes__"),  key := Value.str (Str.ofString "__static_attributes__") 420, val := Value.ref 170 },  { hash := PyData.keyHash P (Str.ofString "__dict__"), key := Value.str (Str.ofString "__dict__") 422,  val := Value.ref 173 },  { hash := PyData.keyHash P (Str.ofString "__weakref__"), key := Value.str (Str.ofString "__weakref__") 424,  val := Value.ref 174 },  { hash := PyData.keyHash P (Str.ofString "__doc__"), key := Value.str (Str.ofString "__doc__") 425,  val := Value.none }]  4 }),
  (172, { cls := Value.type "type",  data :=  Data.cls  { name := Str.ofString "TopologicalSorter", bases := [Value.type "object"],  mro := [Value.ref 172, Value.type "object"], ns := 171, qualname := Str.ofString "TopologicalSorter" },  slots :=  #[none, none, some (Value.str (Str.ofString "TopologicalSorter") 309),  some (Value.str (Str.ofString "TopologicalSorter") 317), some (Value.builtin "object.__new__"),  some (Value.bool true)] }),
  (173, { cls := Value.type "getset_descriptor",  data :=  Data.fields  #[Value.str (Str.ofString "__dict__") 421, Value.ref 172, Value.builtin "function.__dict__",  Value.builtin "function.__dict__#set"] }),
  (174, { cls := Value.type "getset_descriptor",  data :=  Data.fields  #[Value.str (Str.ofString "__weakref__") 423, Value.ref 172, Value.builtin "ExceptionGroup.__weakref__",  Value.none] }),
  (177, { cls := Value.type "tuple", data := Data.seq #[] }),
  (180, { cls := Value.type "code",  data :=  Data.fields  #[Value.str (Str.ofString "_law_dealt") 430, Value.str (Str.ofString "_law_dealt") 431,  Value.str (Str.ofString "/claim/cut.py") 432, Value.int 165 0, Value.int 2 0, Value.int 0 0, Value.int 0 0,  Value.int 3 0, Value.ref 177, Value.bool true, Value.int 181 0, Value.ref 178, Value.none, Value.none,  Value.none, Value.ref 179, Value.int 433 0, Value.int 165 0, Value.str (Str.ofString "/claim/cut.py") 434] }),
  (181, { cls := Value.type "function",  data :=  Data.func  { name := Str.ofString "_law_dealt", qualname := Str.ofString "_law_dealt", params := fP [14], body := fB [14],  scope := fS [14], globals := 3, closure := [], defaults := Value.none, kwdefaults := Value.none,  pyModule := Value.str (Str.ofString "law_mj0232_02") 428, code := Value.ref 180 } }),
  (182, { cls := Value.type "tuple", data := Data.seq #[] }),
  (184, { cls := Value.type "tuple",  data :=  Data.seq  #[Value.str (Str.ofString "size") 439, Value.str (Str.ofString "numbers") 440,  Value.str (Str.ofString "steps") 441, Value.str (Str.ofString "x") 442, Value.str (Str.ofString "a") 443,  Value.str (Str.ofString "b") 444] }),
  (185, { cls := Value.type "tuple", data := Data.seq #[] }),
  (187, { cls := Value.type "code",  data :=  Data.fields  #[Value.str (Str.ofString "_law_steps") 436, Value.str (Str.ofString "_law_steps") 437,  Value.str (Str.ofString "/claim/cut.py") 438, Value.int 167 0, Value.int 2 0, Value.int 0 0, Value.int 0 0,  Value.int 3 0, Value.ref 182, Value.bool true, Value.int 181 0, Value.ref 183, Value.none, Value.ref 184,  Value.ref 185, Value.ref 186, Value.int 445 0, Value.int 167 0, Value.str (Str.ofString "/claim/cut.py") 446] }),
  (188, { cls := Value.type "function",  data :=  Data.func  { name := Str.ofString "_law_steps", qualname := Str.ofString "_law_steps", params := fP [15], body := fB [15],  scope := fS [15], globals := 3, closure := [], defaults := Value.none, kwdefaults := Value.none,  pyModule := Value.str (Str.ofString "law_mj0232_02") 428, code := Value.ref 187 } }),
  (189, { cls := Value.type "tuple", data := Data.seq #[] }),
  (192, { cls := Value.type "code",  data :=  Data.fields  #[Value.str (Str.ofString "_law_able") 448, Value.str (Str.ofString "_law_able") 449,  Value.str (Str.ofString "/claim/cut.py") 450, Value.int 177 0, Value.int 4 0, Value.int 0 0, Value.int 0 0,  Value.int 3 0, Value.ref 189, Value.bool true, Value.int 181 0, Value.ref 190, Value.none, Value.none,  Value.none, Value.ref 191, Value.int 451 0, Value.int 177 0, Value.str (Str.ofString "/claim/cut.py") 452] }),
  (193, { cls := Value.type "function",  data :=  Data.func  { name := Str.ofString "_law_able", qualname := Str.ofString "_law_able", params := fP [16], body := fB [16],  scope := fS [16], globals := 3, closure := [], defaults := Value.none, kwdefaults := Value.none,  pyModule := Value.str (Str.ofString "law_mj0232_02") 428, code := Value.ref 192 } }),
  (194, { cls := Value.type "tuple", data := Data.seq #[] }),
  (197, { cls := Value.type "code",  data :=  Data.fields  #[Value.str (Str.ofString "_law_is_ring") 454, Value.str (Str.ofString "_law_is_ring") 455,  Value.str (Str.ofString "/claim/cut.py") 456, Value.int 188 0, Value.int 2 0, Value.int 0 0, Value.int 0 0,  Value.int 3 0, Value.ref 194, Value.bool true, Value.int 181 0, Value.ref 195, Value.none, Value.none,  Value.none, Value.ref 196, Value.int 457 0, Value.int 188 0, Value.str (Str.ofString "/claim/cut.py") 458] }),
  (198, { cls := Value.type "function",  data :=  Data.func  { name := Str.ofString "_law_is_ring", qualname := Str.ofString "_law_is_ring", params := fP [17],  body := fB [17], scope := fS [17], globals := 3, closure := [], defaults := Value.none,  kwdefaults := Value.none, pyModule := Value.str (Str.ofString "law_mj0232_02") 428, code := Value.ref 197 } }),
  (199, { cls := Value.type "tuple", data := Data.seq #[] }),
  (201, { cls := Value.type "tuple",  data :=  Data.seq  #[Value.str (Str.ofString "sorter") 463, Value.str (Str.ofString "needs") 464,  Value.str (Str.ofString "heap") 465, Value.str (Str.ofString "order") 466, Value.str (Str.ofString "fresh") 467,  Value.str (Str.ofString "work") 468] }),
  (202, { cls := Value.type "tuple", data := Data.seq #[] }),
  (204, { cls := Value.type "code",  data :=  Data.fields  #[Value.str (Str.ofString "_law_run") 460, Value.str (Str.ofString "_law_run") 461,  Value.str (Str.ofString "/claim/cut.py") 462, Value.int 192 0, Value.int 2 0, Value.int 0 0, Value.int 0 0,  Value.int 3 0, Value.ref 199, Value.bool true, Value.int 181 0, Value.ref 200, Value.none, Value.ref 201,  Value.ref 202, Value.ref 203, Value.int 469 0, Value.int 192 0, Value.str (Str.ofString "/claim/cut.py") 470] }),
  (205, { cls := Value.type "function",  data :=  Data.func  { name := Str.ofString "_law_run", qualname := Str.ofString "_law_run", params := fP [18], body := fB [18],  scope := fS [18], globals := 3, closure := [], defaults := Value.none, kwdefaults := Value.none,  pyModule := Value.str (Str.ofString "law_mj0232_02") 428, code := Value.ref 204 } }),
  (206, { cls := Value.type "tuple", data := Data.seq #[] }),
  (209, { cls := Value.type "code",  data :=  Data.fields  #[Value.str (Str.ofString "law") 472, Value.str (Str.ofString "law") 473,  Value.str (Str.ofString "/claim/cut.py") 474, Value.int 207 0, Value.int 1 0, Value.int 0 0, Value.int 0 0,  Value.int 3 0, Value.ref 206, Value.bool true, Value.int 181 0, Value.ref 207, Value.none, Value.none,  Value.none, Value.ref 208, Value.int 475 0, Value.int 207 0, Value.str (Str.ofString "/claim/cut.py") 476] }),
  (210, { cls := Value.type "function",  data :=  Data.func  { name := Str.ofString "law", qualname := Str.ofString "law", params := fP [19], body := fB [19],  scope := fS [19], globals := 3, closure := [], defaults := Value.none, kwdefaults := Value.none,  pyModule := Value.str (Str.ofString "law_mj0232_02") 428, code := Value.ref 209 } })]
noncomputable def adsK : List Addr := [2, 3, 15, 17, 18, 20, 21, 22, 24, 25, 27, 28, 29, 31, 32, 34, 35, 36, 38, 39, 41, 42, 43, 45, 46, 48, 49, 50, 52, 53, 55, 56, 64, 65, 67, 68, 70, 71, 72, 74, 75, 76, 77, 78, 81, 88, 89, 90, 91, 101, 102, 104, 105, 107, 108, 109, 111, 112, 114, 115, 116, 118, 119, 121, 122, 123, 126, 127, 128, 130, 131, 133, 134, 135, 137, 138, 140, 141, 142, 144, 145, 147, 148, 149, 151, 152, 154, 155, 156, 158, 159, 161, 162, 163, 165, 166, 168, 169, 170, 171, 172, 173, 174, 177, 180, 181, 182, 184, 185, 187, 188, 189, 192, 193, 194, 197, 198, 199, 201, 202, 204, 205, 206, 209, 210]
theorem kkAs : ∀ P, adsK = (KK P).map (·.1) := fun _ => by kernel_rfl
end Mine
end
section
set_option maxHeartbeats 0
-- T0
namespace Mine
noncomputable def qv : Program := view pw [0, 2, 3, 4, 5, 6, 8, 9, 10, 11, 12, 14, 15, 16, 17, 18, 19]
noncomputable def topLo : List Str := [Str.ofString "_NodeInfo"]
noncomputable abbrev rw0 : OpenRow := PySem.Challenge.rw_mj0232_02.row
noncomputable def HK : Hook := kHook KK adsK kkAs
theorem topLeft : LeftO pw qv topLo (fun s => xlAt qv [] s && recOk (RowW.records rw0.toRowW) s) (Hook.obs HK) (Hook.val HK) 2910 := fun w => by kernel_rfl
end Mine
end
section
set_option maxHeartbeats 4000000
-- T3
namespace Mine
noncomputable def dL : DefRec := ((defOf qv rw0.name).map (·.1)).getD ⟨Str.ofString "law", fP [19], [], fS [19], default⟩
theorem topSaid : (PySem.Challenge.rw_mj0232_02).wellSaid = true := by kernel_rfl
theorem topHd (walk : WalkO qv topLo (XL qv []) HK.says rw0.toRowW dL [] fun f vs => PySem.call f vs) : PySem.Challenge.rw_mj0232_02.Holds := by
  refine ⟨topSaid, ?_⟩
  refine holds_open (r := rw0) (q := qv) (loose := topLo) (Xt := fun s => xlAt qv [] s && recOk (RowW.records rw0.toRowW) s) (XP := XL qv []) (Yf := Hook.obs HK) (Ya := Hook.val HK) (YP := Hook.says HK) (d := dL) (kwd := []) (N := 2910) topLeft (Hook.of HK) (Hook.keeps HK) (fun s e => xl_of s (Bool.and_eq_true_iff.mp e).1) XL.keeps (by kernel_rfl) (by kernel_rfl) (by kernel_rfl) (fun s e => recFacts_of (Bool.and_eq_true_iff.mp e).2) (by rfl) (row_said topSaid) (by kernel_rfl) ⟨rfl, rfl, rfl, rfl, rfl, by decide +kernel⟩ ?hw walk
  case hw => exact ⟨[ofPy (PyData.list [])], by decide +kernel, by decide +kernel⟩
end Mine
end
-- H0
namespace Mine
noncomputable def objAt (K : Frag) (a : Addr) : Obj := (K.lookup a).getD default
noncomputable def fdAt (K : Frag) (a : Addr) : FuncData := match (objAt K a).data with
  | .func fd => fd
  | _ => default
noncomputable def fdBody (fd : FuncData) : List Stmt := match fd.body with
  | .stmts b => b
  | _ => []
noncomputable abbrev Tp (B : Bs) : Prop := B.K = KK B.w.params
noncomputable abbrev FK (B : Bs) (n : Addr) : Prop := FnOk B n (fdAt (KK B.w.params) n) (fdBody (fdAt (KK B.w.params) n))
noncomputable def isFd (K : Frag) (n : Addr) : Bool := match K.lookup n with
  | some ⟨_, _, .func fd, _⟩ => (match fd.body with | .stmts _ => true | _ => false) && codeIn K fd.code fd.qualname && fd.globals == mainGlobals && fd.builtins == builtinsNs && fd.closure.isEmpty && !fd.scope.isCoroutine && !fd.scope.isGenerator && fd.scope.kind == .function
  | _ => false
theorem fk_of {B : Bs} {n : Addr} (hB : Tp B) (h : isFd (KK B.w.params) n = true) : FK B n := by
  unfold isFd at h
  split at h
  · rename_i oc od fd sl e
    simp only [Bool.and_eq_true, beq_iff_eq, Bool.not_eq_true', List.isEmpty_iff] at h
    obtain ⟨⟨⟨⟨⟨⟨⟨h1, h2⟩, h3⟩, h4⟩, h5⟩, h6⟩, h7⟩, h8⟩ := h
    have e1 : objAt (KK B.w.params) n = ⟨oc, od, .func fd, sl⟩ := by unfold objAt; rw [e]; rfl
    have e2 : fdAt (KK B.w.params) n = fd := by unfold fdAt; rw [e1]
    unfold FK
    rw [e2]
    refine ⟨⟨_, by rw [hB]; exact e, rfl⟩, ?_, by rw [hB]; exact h2, h3, h4, h5, h6, h7, h8⟩
    unfold fdBody
    split at h1
    · rename_i b hb; rw [hb]
    · cases h1
  · cases h
theorem gl_at {B : Bs} {x : Str} {r : Option Value} (hB : Tp B) (h : nsIn (KK B.w.params) mainGlobals x = some r) : nsIn B.K mainGlobals x = some r := by rw [hB]; exact h
theorem hm_of {R : Rm} (h : R.he = Option.none) : R.hm = false := by unfold Rm.hm; rw [h]; rfl
inductive NameAt : List (Str × NameKind) → Str → NameKind → Prop
  | head {x : Str} {k : NameKind} {l : List (Str × NameKind)} : NameAt ((x, k) :: l) x k
  | tail {p : Str × NameKind} {l : List (Str × NameKind)} {x : Str} {k : NameKind} : NameAt l x k → NameAt (p :: l) x k
theorem NameAt.mem {l : List (Str × NameKind)} {x : Str} {k : NameKind} (h : NameAt l x k) : (x, k) ∈ l := by
  induction h with
  | head => exact .head _
  | tail _ ih => exact .tail _ ih
theorem NameAt.look {l : List (Str × NameKind)} {x : Str} {k : NameKind} (h : NameAt l x k) (nd : (l.map (·.1)).Nodup) : l.lookup x = some k := by
  induction h with
  | head => simp [List.lookup]
  | @tail p l x k h ih =>
    obtain ⟨y, j⟩ := p
    rw [List.map_cons, List.nodup_cons] at nd
    have hne : (x == y) = false := beq_eq_false_iff_ne.mpr fun z => by subst z; exact nd.1 (List.mem_map.mpr ⟨_, h.mem, rfl⟩)
    rw [List.lookup_cons, hne]
    exact ih nd.2
noncomputable def fcB (fc : FC) : Bool := slotsOk fc.names fc.slots && decide ((fc.names.map (·.1)).Nodup) && fc.names.all (fun p => !(p.1 == ("__debug__" : Str)))
structure FcOk (fc : FC) : Prop where
  ok : fcB fc = true
theorem FcOk.nd {fc : FC} (h : FcOk fc) : (fc.names.map (·.1)).Nodup := of_decide_eq_true (Bool.and_eq_true_iff.mp (Bool.and_eq_true_iff.mp h.ok).1).2
theorem FcOk.db {fc : FC} (h : FcOk fc) {x : Str} {k : NameKind} (hk : fc.names.lookup x = some k) : (x == ("__debug__" : Str)) = false := by
  have := List.all_eq_true.mp (Bool.and_eq_true_iff.mp h.ok).2 _ (mem_of_lookup hk)
  simpa using this
theorem FcOk.loc {fc : FC} (h : FcOk fc) {x : Str} {i : Nat} (hi : SlotAt fc.slots i x .loc) : fc.names.lookup x = some .local := (slotsOk_get (Bool.and_eq_true_iff.mp (Bool.and_eq_true_iff.mp h.ok).1).1 hi.get).elim (fun z => z.2) fun z => nomatch z.1
theorem FcOk.own {fc : FC} (h : FcOk fc) {x : Str} {i : Nat} (hi : SlotAt fc.slots i x .own) : fc.names.lookup x = some .cell := (slotsOk_get (Bool.and_eq_true_iff.mp (Bool.and_eq_true_iff.mp h.ok).1).1 hi.get).elim (fun z => nomatch z.1) fun z => z.2
section
variable {B : Bs} {fc : FC} {R : Rm}
theorem SemE_locS {x : Str} {pos : Pos} {i : Nat} (hF : FcOk fc) (hi : SlotAt fc.slots i x .loc) : SemE B fc R (.Name x pos) (Var i) := SemE_loc (hF.loc hi) hi.get (hF.db (hF.loc hi))
theorem SemE_ownS {x : Str} {pos : Pos} {i : Nat} (hF : FcOk fc) (hi : SlotAt fc.slots i x .own) : SemE B fc R (.Name x pos) (Var i) := SemE_cell (by decide) (hF.own hi) hi.get (hF.db (hF.own hi))
theorem SemE_locK {x : Str} {pos : Pos} {i : Nat} (hi : SlotAt fc.slots i x .loc) (hk : fc.names.lookup x = some .local) (hd : (x == ("__debug__" : Str)) = false) : SemE B fc R (.Name x pos) (Var i) := SemE_loc hk hi.get hd
theorem SemE_capK {x : Str} {pos : Pos} {i : Nat} (hi : SlotAt fc.slots i x .cap) (hk : fc.names.lookup x = some .cell) (hd : (x == ("__debug__" : Str)) = false) : SemE B fc R (.Name x pos) (Var i) := SemE_cell (by decide) hk hi.get hd
theorem SemG_locS {x : Str} {pos : Pos} {i : Nat} (hF : FcOk fc) (hi : SlotAt fc.slots i x .loc) : SemG B fc R (.Name x pos) (TSet i) := SemG_loc (hF.loc hi) hi.get
theorem SemG_ownS {x : Str} {pos : Pos} {i : Nat} (hF : FcOk fc) (hi : SlotAt fc.slots i x .own) : SemG B fc R (.Name x pos) (TSet i) := SemG_own (hF.own hi) hi.get
theorem SemG_locK {x : Str} {pos : Pos} {i : Nat} (hi : SlotAt fc.slots i x .loc) (hk : fc.names.lookup x = some .local) : SemG B fc R (.Name x pos) (TSet i) := SemG_loc hk hi.get
theorem SemE_fnS {x : Str} {p pos : Pos} {f : Addr} {es : List Expr} {ds : List ED} {g : List AV → OD} (hB : Tp B) (hf : SemC B R (.ref f) g) (hx : nsIn (KK B.w.params) mainGlobals x = some (some (.ref f))) (hK : keepIn (KK B.w.params) (.ref f) = true)
    (hk : fc.names.lookup x = some .globalImplicit) (hd : (x == ("__debug__" : Str)) = false) (hns : es.all notStar = true) (hs : SemAs B fc R es ds) : SemE B fc R (.Call (.Name x p) es [] pos) (Cal g ds) :=
  SemE_callK (SemE_glob hk (gl_at hB hx) hd) (by rw [hB]; exact hK) hs hns hf
theorem SemE_bltS {x : Str} {p pos : Pos} {id : String} {es : List Expr} {ds : List ED} {f : List AV → OD} (hB : Tp B) (hf : SemOn B R (fun vs => call (.builtin id) vs) f)
    (hb : bootBuiltins x = some (.builtin id)) (hn : x ≠ "__name__") (hd : (x == ("__debug__" : Str)) = false) (hv : nsIn (KK B.w.params) mainGlobals x = some Option.none) (hk : fc.names.lookup x = some .globalImplicit) (hns : es.all notStar = true) (hs : SemAs B fc R es ds) :
    SemE B fc R (.Call (.Name x p) es [] pos) (Cal f ds) := SemE_callB (SemE_blt hk (gl_at hB hv) hb hn hd) hs hns hf
theorem SemE_typS {x : Str} {p pos : Pos} {id : String} {es : List Expr} {ds : List ED} {f : List AV → OD} (hB : Tp B) (hf : SemOn B R (fun vs => call (.type id) vs) f)
    (hb : bootBuiltins x = some (.type id)) (hn : x ≠ "__name__") (hd : (x == ("__debug__" : Str)) = false) (hv : nsIn (KK B.w.params) mainGlobals x = some Option.none) (hk : fc.names.lookup x = some .globalImplicit) (hns : es.all notStar = true) (hs : SemAs B fc R es ds) :
    SemE B fc R (.Call (.Name x p) es [] pos) (Cal f ds) := SemE_callT (SemE_blt hk (gl_at hB hv) hb hn hd) hs hns hf
theorem SemE_intS {x : Str} {pos : Pos} {i : Int} {t : Tok} (hB : Tp B) (hv : nsIn (KK B.w.params) mainGlobals x = some (some (.int i t))) (hk : fc.names.lookup x = some .globalImplicit) (hd : (x == ("__debug__" : Str)) = false) : SemE B fc R (.Name x pos) (Con (.int i)) := SemE_globInt hk (gl_at hB hv) hd
theorem SemE_typN {x : Str} {pos : Pos} {v : Value} (hB : Tp B) (hb : bootBuiltins x = some v) (hn : x ≠ "__name__") (hd : (x == ("__debug__" : Str)) = false) (hv : nsIn (KK B.w.params) mainGlobals x = some Option.none) (hk : fc.names.lookup x = some .globalImplicit) : SemE B fc R (.Name x pos) (Con (.con v)) := SemE_blt hk (gl_at hB hv) hb hn hd

theorem SemE_lenS {p pos : Pos} {es : List Expr} {ds : List ED} (hB : Tp B) (hk : fc.names.lookup (Str.ofString "len") = some .globalImplicit) (hns : es.all notStar = true) (hs : SemAs B fc R es ds) :
    SemE B fc R (.Call (.Name (Str.ofString "len") p) es [] pos) (Cal oLen ds) := SemE_bltS hB semLen (by kernel_rfl) (by decide) (by kernel_rfl) (by kernel_rfl) hk hns hs

theorem SemE_sumS {p pos : Pos} {es : List Expr} {ds : List ED} (hB : Tp B) (hR : R.he = Option.none) (hk : fc.names.lookup (Str.ofString "sum") = some .globalImplicit) (hns : es.all notStar = true) (hs : SemAs B fc R es ds) :
    SemE B fc R (.Call (.Name (Str.ofString "sum") p) es [] pos) (Cal oSum ds) := SemE_bltS hB (semSum (hm_of hR)) (by kernel_rfl) (by decide) (by kernel_rfl) (by kernel_rfl) hk hns hs

theorem SemE_maxS {p pos : Pos} {es : List Expr} {ds : List ED} (hB : Tp B) (hR : R.he = Option.none) (hk : fc.names.lookup (Str.ofString "max") = some .globalImplicit) (hns : es.all notStar = true) (hs : SemAs B fc R es ds) :
    SemE B fc R (.Call (.Name (Str.ofString "max") p) es [] pos) (Cal oMax ds) := SemE_bltS hB (semMax (hm_of hR)) (by kernel_rfl) (by decide) (by kernel_rfl) (by kernel_rfl) hk hns hs

theorem SemE_sortedS {p pos : Pos} {es : List Expr} {ds : List ED} (hB : Tp B) (hk : fc.names.lookup (Str.ofString "sorted") = some .globalImplicit) (hns : es.all notStar = true) (hs : SemAs B fc R es ds) :
    SemE B fc R (.Call (.Name (Str.ofString "sorted") p) es [] pos) (Cal oSorted ds) := SemE_bltS hB semSorted (by kernel_rfl) (by decide) (by kernel_rfl) (by kernel_rfl) hk hns hs

theorem SemE_iterS {p pos : Pos} {es : List Expr} {ds : List ED} (hB : Tp B) (hk : fc.names.lookup (Str.ofString "iter") = some .globalImplicit) (hns : es.all notStar = true) (hs : SemAs B fc R es ds) :
    SemE B fc R (.Call (.Name (Str.ofString "iter") p) es [] pos) (Cal oIter ds) := SemE_bltS hB semIter (by kernel_rfl) (by decide) (by kernel_rfl) (by kernel_rfl) hk hns hs

theorem SemE_minS {p pos : Pos} {es : List Expr} {ds : List ED} (hB : Tp B) (hR : R.he = Option.none) (hk : fc.names.lookup (Str.ofString "min") = some .globalImplicit) (hns : es.all notStar = true) (hs : SemAs B fc R es ds) :
    SemE B fc R (.Call (.Name (Str.ofString "min") p) es [] pos) (Cal oMin ds) := SemE_bltS hB (semMin (hm_of hR)) (by kernel_rfl) (by decide) (by kernel_rfl) (by kernel_rfl) hk hns hs

theorem SemE_absS {p pos : Pos} {es : List Expr} {ds : List ED} (hB : Tp B) (hk : fc.names.lookup (Str.ofString "abs") = some .globalImplicit) (hns : es.all notStar = true) (hs : SemAs B fc R es ds) :
    SemE B fc R (.Call (.Name (Str.ofString "abs") p) es [] pos) (Cal oAbs ds) := SemE_bltS hB semAbs (by kernel_rfl) (by decide) (by kernel_rfl) (by kernel_rfl) hk hns hs

theorem SemE_rangeS {p pos : Pos} {es : List Expr} {ds : List ED} (hB : Tp B) (hk : fc.names.lookup (Str.ofString "range") = some .globalImplicit) (hns : es.all notStar = true) (hs : SemAs B fc R es ds) :
    SemE B fc R (.Call (.Name (Str.ofString "range") p) es [] pos) (Cal oRange ds) := SemE_typS hB semRange (by kernel_rfl) (by decide) (by kernel_rfl) (by kernel_rfl) hk hns hs

theorem SemE_tupleS {p pos : Pos} {es : List Expr} {ds : List ED} (hB : Tp B) (hk : fc.names.lookup (Str.ofString "tuple") = some .globalImplicit) (hns : es.all notStar = true) (hs : SemAs B fc R es ds) :
    SemE B fc R (.Call (.Name (Str.ofString "tuple") p) es [] pos) (Cal oTupleOf ds) := SemE_typS hB semTupleOf (by kernel_rfl) (by decide) (by kernel_rfl) (by kernel_rfl) hk hns hs

theorem SemE_setS {p pos : Pos} {es : List Expr} {ds : List ED} (hB : Tp B) (hk : fc.names.lookup (Str.ofString "set") = some .globalImplicit) (hns : es.all notStar = true) (hs : SemAs B fc R es ds) :
    SemE B fc R (.Call (.Name (Str.ofString "set") p) es [] pos) (Cal oSet ds) := SemE_typS hB semSet (by kernel_rfl) (by decide) (by kernel_rfl) (by kernel_rfl) hk hns hs

theorem SemE_boolS {p pos : Pos} {es : List Expr} {ds : List ED} (hB : Tp B) (hk : fc.names.lookup (Str.ofString "bool") = some .globalImplicit) (hns : es.all notStar = true) (hs : SemAs B fc R es ds) :
    SemE B fc R (.Call (.Name (Str.ofString "bool") p) es [] pos) (Cal oBool ds) := SemE_typS hB semBool (by kernel_rfl) (by decide) (by kernel_rfl) (by kernel_rfl) hk hns hs

theorem SemE_mappend {o : Expr} {apos pos : Pos} {es : List Expr} {od : ED} {ds : List ED} (hbase : ∀ env, attributeBase o (Str.ofString "append") env (eval o env) = eval o env) (hline : (apos.endLine == pos.line) = true) (hns : es.all notStar = true) (hlen : es.length < 30)
    (ho : SemE B fc R o od) (hs : SemAs B fc R es ds) : SemE B fc R (.Call (.Attribute o (Str.ofString "append") apos) es [] pos) (Mth isList oAppend od ds) := SemE_methB hbase hline hns hlen (gm_list PySem.F.slot_list_append PySem.F.type_list_append) ho hs semAppend

theorem SemE_mpop {o : Expr} {apos pos : Pos} {es : List Expr} {od : ED} {ds : List ED} (hbase : ∀ env, attributeBase o (Str.ofString "pop") env (eval o env) = eval o env) (hline : (apos.endLine == pos.line) = true) (hns : es.all notStar = true) (hlen : es.length < 30)
    (ho : SemE B fc R o od) (hs : SemAs B fc R es ds) : SemE B fc R (.Call (.Attribute o (Str.ofString "pop") apos) es [] pos) (Mth isList oPop od ds) := SemE_methB hbase hline hns hlen (gm_list PySem.F.slot_list_pop PySem.F.type_list_pop) ho hs semPop

theorem SemE_mclear {o : Expr} {apos pos : Pos} {es : List Expr} {od : ED} {ds : List ED} (hbase : ∀ env, attributeBase o (Str.ofString "clear") env (eval o env) = eval o env) (hline : (apos.endLine == pos.line) = true) (hns : es.all notStar = true) (hlen : es.length < 30)
    (ho : SemE B fc R o od) (hs : SemAs B fc R es ds) : SemE B fc R (.Call (.Attribute o (Str.ofString "clear") apos) es [] pos) (Mth isList oClear od ds) := SemE_methB hbase hline hns hlen (gm_list PySem.F.slot_list_clear PySem.F.type_list_clear) ho hs semClear

theorem SemE_mget {o : Expr} {apos pos : Pos} {es : List Expr} {od : ED} {ds : List ED} (hbase : ∀ env, attributeBase o (Str.ofString "get") env (eval o env) = eval o env) (hline : (apos.endLine == pos.line) = true) (hns : es.all notStar = true) (hlen : es.length < 30)
    (ho : SemE B fc R o od) (hs : SemAs B fc R es ds) : SemE B fc R (.Call (.Attribute o (Str.ofString "get") apos) es [] pos) (Mth isDict oGet od ds) := SemE_methB hbase hline hns hlen (gm_dict PySem.F.slot_dict_get PySem.F.type_dict_get) ho hs semGet

theorem SemE_mvalues {o : Expr} {apos pos : Pos} {es : List Expr} {od : ED} {ds : List ED} (hbase : ∀ env, attributeBase o (Str.ofString "values") env (eval o env) = eval o env) (hline : (apos.endLine == pos.line) = true) (hns : es.all notStar = true) (hlen : es.length < 30)
    (ho : SemE B fc R o od) (hs : SemAs B fc R es ds) : SemE B fc R (.Call (.Attribute o (Str.ofString "values") apos) es [] pos) (Mth isDict (oView false) od ds) := SemE_methB hbase hline hns hlen (gm_dict PySem.F.slot_dict_values PySem.F.type_dict_values) ho hs semValues

theorem SemE_madd {o : Expr} {apos pos : Pos} {es : List Expr} {od : ED} {ds : List ED} (hbase : ∀ env, attributeBase o (Str.ofString "add") env (eval o env) = eval o env) (hline : (apos.endLine == pos.line) = true) (hns : es.all notStar = true) (hlen : es.length < 30)
    (ho : SemE B fc R o od) (hs : SemAs B fc R es ds) : SemE B fc R (.Call (.Attribute o (Str.ofString "add") apos) es [] pos) (Mth isSet oSetAdd od ds) := SemE_methB hbase hline hns hlen gm_setAdd ho hs semSetAdd

theorem SemE_mthI {o : Expr} {name : Str} {apos pos : Pos} {es : List Expr} {C g : Addr} {od : ED} {ds : List ED} {f : List AV → OD} (hB : Tp B) (hf : SemC B R (.ref g) f) (ok : MethOk B.K C name g) (hK : isFd (KK B.w.params) g = true) (hbase : ∀ env, attributeBase o name env (eval o env) = eval o env) (hline : (apos.endLine == pos.line) = true)
    (hns : es.all notStar = true) (hlen : es.length < 30) (ho : SemE B fc R o od) (hs : SemAs B fc R es ds) : SemE B fc R (.Call (.Attribute o name apos) es [] pos) (Mth (isInst C name) f od ds) :=
  SemE_methF hbase hline hns hlen (fk_of hB hK) (gm_inst ok) ho hs hf.on
noncomputable def oGetI (C : Addr) (n : Str) : AV → OD := fun a σ Q _ => Ex4 fun p dx fs x => An6 (a = .ptr p) (σ p = some (.inst C dx)) (σ dx = some (.attrs fs)) (lookA fs n = some x) (isCon x = false) (Q x σ)
noncomputable def oGetS (C : Addr) (i : Nat) : AV → OD := fun a σ Q _ => Ex5 fun p dx fs vs x => An6 (a = .ptr p) (σ p = some (.slots C dx vs)) (σ dx = some (.attrs fs)) (vs[i]? = some (some x)) (isCon x = false) (Q x σ)
noncomputable def oSetI (C : Addr) (n : Str) : AV → AV → Sto → (Sto → Prop) → Prop := fun a c σ Q => Ex3 fun p dx fs => An5 (a = .ptr p) (σ p = some (.inst C dx)) (σ dx = some (.attrs fs)) (fs.length < 400) (Q (upd σ dx (.attrs (putA fs n c))))
noncomputable def oSetS (C : Addr) (i : Nat) : AV → AV → Sto → (Sto → Prop) → Prop := fun a c σ Q => Ex4 fun p dx fs vs => An4 (a = .ptr p) (σ p = some (.slots C dx vs)) (σ dx = some (.attrs fs)) (Q (upd σ p (.slots C dx (setS vs i c))))
theorem semGetI {C : Addr} {n : Str} (ok : AttrOk B.K C n) : SemO1 B R (fun v => getAttr v n true) (oGetI C n) := by
  rintro A σ s a v Q X ao rh ra ⟨p, dx, fs, x, rfl, h1, h2, h3, h4, hq⟩
  exact semGetA A σ s _ v Q X ao rh ra (.inl ⟨C, dx, fs, x, ⟨h1, h2, ok, h3, h4⟩, hq⟩)
theorem semGetS {C pd : Addr} {n : Str} {i : Nat} (ok : SlotOk B.K C n pd i) : SemO1 B R (fun v => getAttr v n true) (oGetS C i) := by
  rintro A σ s a v Q X ao rh ra ⟨p, dx, fs, vs, x, rfl, h1, h2, h3, h4, hq⟩
  exact semGetA A σ s _ v Q X ao rh ra (.inr ⟨C, dx, fs, vs, x, i, pd, ⟨h1, h2, ok, h3, h4⟩, hq⟩)
theorem semSetI {C : Addr} {n : Str} (ok : AttrOk B.K C n) : SemU2 B R (fun o v => setAttr o n v) (oSetI C n) := by
  rintro A σ s a v b u Q E ao rh ra rb ⟨p, dx, fs, rfl, h1, h2, h3, hq⟩
  exact semSetA A σ s _ v b u Q E ao rh ra rb (.inl ⟨C, dx, fs, ⟨h1, h2, ok, h3⟩, hq⟩)
theorem semSetS {C pd : Addr} {n : Str} {i : Nat} (ok : SlotOk B.K C n pd i) : SemU2 B R (fun o v => setAttr o n v) (oSetS C i) := by
  rintro A σ s a v b u Q E ao rh ra rb ⟨p, dx, fs, vs, rfl, h1, h2, hq⟩
  exact semSetA A σ s _ v b u Q E ao rh ra rb (.inr ⟨C, dx, fs, vs, i, pd, ⟨h1, h2, ok⟩, hq⟩)
theorem SemE_attrI {C : Addr} {o : Expr} {n : Str} {pos : Pos} {d : ED} (ok : AttrOk B.K C n) (hbase : ∀ env, attributeBase o n env (eval o env) = eval o env) (ho : SemE B fc R o d) : SemE B fc R (.Attribute o n pos) (Op1 (oGetI C n) d) := SemE_attr (semGetI ok) ho hbase
theorem SemE_attrS {C pd : Addr} {i : Nat} {o : Expr} {n : Str} {pos : Pos} {d : ED} (ok : SlotOk B.K C n pd i) (hbase : ∀ env, attributeBase o n env (eval o env) = eval o env) (ho : SemE B fc R o d) : SemE B fc R (.Attribute o n pos) (Op1 (oGetS C i) d) := SemE_attr (semGetS ok) ho hbase
theorem SemE_nxA {o : Expr} {pos : Pos} {d : ED} (hbase : ∀ env, attributeBase o (Str.ofString "__next__") env (eval o env) = eval o env) (ho : SemE B fc R o d) : SemE B fc R (.Attribute o (Str.ofString "__next__") pos) (Op1 oNxA d) := SemE_attr semNxA ho hbase
theorem SemG_attrI {C : Addr} {o : Expr} {n : Str} {pos : Pos} {d : ED} (ok : AttrOk B.K C n) (ho : SemE B fc R o d) : SemG B fc R (.Attribute o n pos) (TAttr (oSetI C n) d) := SemG_attr (semSetI ok) ho
theorem SemG_attrS {C pd : Addr} {i : Nat} {o : Expr} {n : Str} {pos : Pos} {d : ED} (ok : SlotOk B.K C n pd i) (ho : SemE B fc R o d) : SemG B fc R (.Attribute o n pos) (TAttr (oSetS C i) d) := SemG_attr (semSetS ok) ho
theorem SemS_augI {C : Addr} {o value : Expr} {n : Str} {tpos pos : Pos} {od a : ED} (ok : AttrOk B.K C n) (ho : SemE B fc R o od) (ha : SemE B fc R value a) : SemS B fc R (.AugAssign (.Attribute o n tpos) .Add value pos) (SAugA (oGetI C n) oAdd (oSetI C n) od a) := SemS_augA (semGetI ok) semIAdd (semSetI ok) ho ha
theorem SemS_augS {C pd : Addr} {i : Nat} {o value : Expr} {n : Str} {tpos pos : Pos} {od a : ED} (ok : SlotOk B.K C n pd i) (ho : SemE B fc R o od) (ha : SemE B fc R value a) : SemS B fc R (.AugAssign (.Attribute o n tpos) .Add value pos) (SAugA (oGetS C i) oAdd (oSetS C i) od a) := SemS_augA (semGetS ok) semIAdd (semSetS ok) ho ha
theorem SemS_subS {C pd : Addr} {i : Nat} {o value : Expr} {n : Str} {tpos pos : Pos} {od a : ED} (ok : SlotOk B.K C n pd i) (ho : SemE B fc R o od) (ha : SemE B fc R value a) : SemS B fc R (.AugAssign (.Attribute o n tpos) .Sub value pos) (SAugA (oGetS C i) oSub (oSetS C i) od a) := SemS_augA (semGetS ok) semISub (semSetS ok) ho ha
theorem SemS_forS {target iter : Expr} {body orelse : List Stmt} {pos : Pos} {g : AV → AS → (AS → Prop) → QX → Prop} {i : ED} {a o : SD} (hR : R.he = Option.none) (hs : ∀ env x, foldedSetIterable iter env x = pure x) (hi : SemE B fc R iter i) (hg : SemG B fc R target g)
    (ha : SemSs B fc R body a) (ho : SemSs B fc R orelse o) : SemS B fc R (.For target iter body orelse pos) (SFor false (isTupT target) g i a o) := hm_of hR ▸ SemS_for (iterAll (hm_of hR)) hi hg ha ho hs
theorem names_ok {names : List (Str × NameKind)} (h : (names.all fun q => q.2 != .local || names.lookup q.1 == some .local) = true) : ∀ q ∈ names, q.2 = .local → names.lookup q.1 = some .local := fun q hq hl => by
  have := List.all_eq_true.mp h q hq
  rw [hl] at this; simpa using this
theorem SemE_comp1 {x : Str} {xp : Pos} {elt iter : Expr} {ifs : List Expr} {scope : Scope} {pos : Pos} {cs : List (Str × SK)} {is : List Nat} {i : ED} {g : AV → AS → (AS → Prop) → QX → Prop} {t : BD} {e : ED} (hR : R.he = Option.none)
    (hcap : CapAt fc.slots scope.names cs is) (hkind : scope.kind = .function) (hnd : (((x, SK.loc) :: cs).map (·.1)).Nodup) (hnames : (scope.names.all fun q => q.2 != .local || scope.names.lookup q.1 == some .local) = true) (hs : ∀ env x, foldedSetIterable iter env x = pure x) (hi : SemE B fc R iter i)
    (hg : SemG B ⟨(x, SK.loc) :: cs, relN scope.names fc.names⟩ R (.Name x xp) g) (ht : SemIf B ⟨(x, SK.loc) :: cs, relN scope.names fc.names⟩ R ifs t) (he : SemE B ⟨(x, SK.loc) :: cs, relN scope.names fc.names⟩ R elt e) :
    SemE B fc R (.ListComp elt [⟨.Name x xp, iter, ifs, 0⟩] scope pos) (EComp false false 1 is i g t e) :=
  by have h := SemE_comp (ts := [x]) (pos := pos) hi hcap hg ht he (iterAll (hm_of hR)) hkind hnd (names_ok hnames) hs; rw [hm_of hR] at h; exact h
theorem SemS_asgComp1 {y : Str} {p : Pos} {j : Nat} {x : Str} {xp : Pos} {elt iter : Expr} {ifs : List Expr} {scope : Scope} {pos spos : Pos} {cs : List (Str × SK)} {is : List Nat} {i : ED} {g : AV → AS → (AS → Prop) → QX → Prop} {t : BD} {e : ED} (hR : R.he = Option.none)
    (hF : FcOk fc) (hj : SlotAt fc.slots j y .loc) (hline : (p.line == pos.line) = true) (hfresh : (scope.names.any fun q => q.1 == y && (q.2 == .local || q.2 == .cell)) = false)
    (hcap : CapAt fc.slots scope.names cs is) (hkind : scope.kind = .function) (hnd : (((x, SK.loc) :: cs).map (·.1)).Nodup) (hnames : (scope.names.all fun q => q.2 != .local || scope.names.lookup q.1 == some .local) = true) (hs : ∀ env x, foldedSetIterable iter env x = pure x) (hi : SemE B fc R iter i)
    (hg : SemG B ⟨(x, SK.loc) :: cs, relN scope.names fc.names⟩ R (.Name x xp) g) (ht : SemIf B ⟨(x, SK.loc) :: cs, relN scope.names fc.names⟩ R ifs t) (he : SemE B ⟨(x, SK.loc) :: cs, relN scope.names fc.names⟩ R elt e) :
    SemS B fc R (.Assign [.Name y p] (.ListComp elt [⟨.Name x xp, iter, ifs, 0⟩] scope pos) spos) (SAsg (TSet j) (EComp false false 1 is i g t e)) :=
  by have h := SemS_asgComp (ts := [x]) (spos := spos) (hF.loc hj) hj hline hfresh hi hcap hg ht he (iterAll (hm_of hR)) hkind hnd (names_ok hnames) hs; rw [hm_of hR] at h; exact h
theorem SemG_tupS {es : List Expr} {gs : List (AV → AS → (AS → Prop) → QX → Prop)} {k : Nat} {pos : Pos} (hR : R.he = Option.none) (h : SemGs B fc R es gs) : SemG B fc R (.Tuple es k pos) (TTup gs) := SemG_tuple (hm_of hR) h
end
section
variable {σ : Sto} {Q : AV → Sto → Prop} {X : AX → Sto → Prop} {a b : Int}
theorem e_add : oAddX (.int a) (.int b) σ Q X = Q (.int (a + b)) σ := rfl
theorem e_iadd : oAdd (.int a) (.int b) σ Q X = Q (.int (a + b)) σ := rfl
theorem e_sub : oSub (.int a) (.int b) σ Q X = Q (.int (a - b)) σ := rfl
theorem e_lt : oLt (.int a) (.int b) σ Q X = Q (.bool (decide (a < b))) σ := rfl
theorem e_cmp {f : Int → Int → Bool} : oCmp f (.int a) (.int b) σ Q X = Q (.bool (f a b)) σ := rfl
theorem e_tru {b : Bool} {T : Bool → Prop} : tru (.bool b) σ T = T b := rfl
end
end Mine
-- G1
namespace Mine
noncomputable def attrB (K : Frag) (C : Addr) (n : Str) : Bool := plainGet K C n && hasDictIn K C && findIn K (.ref C) n == some none && findIn K (.ref C) "__setattr__" == some (some (.builtin "object.__setattr__")) && plainOver K C
theorem attr_of {B : Bs} {C : Addr} {n : Str} (hB : Tp B) (h : attrB (KK B.w.params) C n = true) : AttrOk B.K C n := by
  unfold attrB at h
  simp only [Bool.and_eq_true, beq_iff_eq] at h
  obtain ⟨⟨⟨⟨h1, h2⟩, h3⟩, h4⟩, h5⟩ := h
  rw [hB]; exact ⟨h1, h2, h3, h4, h5⟩
noncomputable def slotB (K : Frag) (C : Addr) (n : Str) (p : Addr) (i : Nat) : Bool := plainGet K C n && isClsIn K C && findIn K (.ref C) n == some (some (.ref p)) && specialIn K (.ref p) "__get__" == some (some (.builtin "member_descriptor.__get__")) && takesIn K (.ref p) == some true && slotIn K p C == some i &&
  findIn K (.ref C) "__setattr__" == some (some (.builtin "object.__setattr__")) && plainOver K C && typeIn K (.ref p) == some (.type "member_descriptor")
theorem slot_of' {B : Bs} {C p : Addr} {n : Str} {i : Nat} (hB : Tp B) (h : slotB (KK B.w.params) C n p i = true) (hi : i < 1000) : SlotOk B.K C n p i := by
  unfold slotB at h
  simp only [Bool.and_eq_true, beq_iff_eq] at h
  obtain ⟨⟨⟨⟨⟨⟨⟨⟨h1, h2⟩, h3⟩, h4⟩, h5⟩, h6⟩, h7⟩, h8⟩, h9⟩ := h
  rw [hB]; exact ⟨h1, h2, h3, h4, h5, h6, h7, h8, h9, hi⟩
noncomputable def methB (K : Frag) (C : Addr) (n : Str) (f : Addr) : Bool := plainGet K C n && findIn K (.ref C) n == some (some (.ref f)) && isFn K (.ref f)
theorem meth_of {B : Bs} {C f : Addr} {n : Str} (hB : Tp B) (h : methB (KK B.w.params) C n f = true) : MethOk B.K C n f := by
  unfold methB at h
  simp only [Bool.and_eq_true, beq_iff_eq] at h
  obtain ⟨⟨h1, h2⟩, h3⟩ := h
  rw [hB]; exact ⟨h1, h2, h3⟩
theorem takes_at {B : Bs} {X₀ c : Value} (hB : Tp B) (h : exmOne (KK B.w.params) X₀ c = some true) : Takes B X₀ c := takes_of (by rw [hB]; exact h)
theorem okA1 {B : Bs} (hB : Tp B) : AttrOk B.K 172 (Str.ofString "_node2info") := attr_of hB (by kernel_rfl)
theorem okA2 {B : Bs} (hB : Tp B) : AttrOk B.K 172 (Str.ofString "_ready_nodes") := attr_of hB (by kernel_rfl)
theorem okA3 {B : Bs} (hB : Tp B) : AttrOk B.K 172 (Str.ofString "_npassedout") := attr_of hB (by kernel_rfl)
theorem okA4 {B : Bs} (hB : Tp B) : AttrOk B.K 172 (Str.ofString "_nfinished") := attr_of hB (by kernel_rfl)
theorem okS0 {B : Bs} (hB : Tp B) : SlotOk B.K 75 (Str.ofString "node") 76 0 := slot_of' hB (by kernel_rfl) (by decide)
theorem okS1 {B : Bs} (hB : Tp B) : SlotOk B.K 75 (Str.ofString "npredecessors") 77 1 := slot_of' hB (by kernel_rfl) (by decide)
theorem okS2 {B : Bs} (hB : Tp B) : SlotOk B.K 75 (Str.ofString "successors") 78 2 := slot_of' hB (by kernel_rfl) (by decide)
section
variable {B : Bs} {fc : FC} {R : Rm}
theorem SemE_nOut {pos : Pos} (hB : Tp B) (hk : fc.names.lookup (Str.ofString "_NODE_OUT") = some .globalImplicit) : SemE B fc R (.Name (Str.ofString "_NODE_OUT") pos) (Con (.int (-1))) := SemE_intS (t := 249) hB (by kernel_rfl) hk (by kernel_rfl)
theorem SemE_nDone {pos : Pos} (hB : Tp B) (hk : fc.names.lookup (Str.ofString "_NODE_DONE") = some .globalImplicit) : SemE B fc R (.Name (Str.ofString "_NODE_DONE") pos) (Con (.int (-2))) := SemE_intS (t := 252) hB (by kernel_rfl) hk (by kernel_rfl)
theorem SemS_tryStop {p : Pos} {b₀ : Stmt} {suite : List Stmt} {tpos pos : Pos} {body : List Stmt} {b : SD} {hd : Addr → AX → SD} (hB : Tp B) (hR : R.he = Option.none) (hk : fc.names.lookup (Str.ofString "StopIteration") = some .globalImplicit) (hb : SemSs B fc R body b)
    (hs : ∀ ea y, SemSs B fc ⟨R.lv, some (ea, y)⟩ (b₀ :: suite) (hd ea y)) : SemS B fc R (.Try body [.ExceptHandler (some (.Name (Str.ofString "StopIteration") p)) none (b₀ :: suite) tpos] [] [] pos) (STry (.type "StopIteration") b hd none) :=
  SemS_try hR (fun _ => SemE_typN hB (v := .type "StopIteration") (by kernel_rfl) (by decide) (by kernel_rfl) (by kernel_rfl) hk) (takes_at hB (by kernel_rfl)) hb hs
end
end Mine
-- G2
namespace Mine
structure SS where
  ks : List Int
  np : Int → Int
  su : Int → List Int
  rd : Option (List Int)
  po : Int
  fi : Int
structure SA where
  ps : Addr
  dx : Addr
  dn : Addr
  ep : Nat
  a : Int → Addr
  da : Int → Addr
  l : Int → Addr
  r : Addr
noncomputable def rdV (A : SA) : Option (List Int) → AV
  | none => .none
  | some _ => .ptr A.r
noncomputable def niV (A : SA) (S : SS) (k : Int) : List (Option AV) := [some (.int k), some (.int (S.np k)), some (.ptr (A.l k))]
noncomputable def tsV (A : SA) (S : SS) : List (Str × AV) := [(Str.ofString "_node2info", .ptr A.dn), (Str.ofString "_ready_nodes", rdV A S.rd), (Str.ofString "_npassedout", .int S.po), (Str.ofString "_nfinished", .int S.fi)]
structure SAt (σ : Sto) (A : SA) (S : SS) : Prop where
  i : σ A.ps = some (.inst 172 A.dx)
  x : σ A.dx = some (.attrs (tsV A S))
  d : σ A.dn = some (.dict (S.ks.map fun k => (k, .ptr (A.a k))) A.ep)
  n : ∀ k ∈ S.ks, σ (A.a k) = some (.slots 75 (A.da k) (niV A S k))
  nd : ∀ k ∈ S.ks, σ (A.da k) = some (.attrs [])
  l : ∀ k ∈ S.ks, σ (A.l k) = some (.list (iL (S.su k)))
  r : ∀ rs, S.rd = some rs → σ A.r = some (.list (iL rs))
  nk : S.ks.Nodup
  nl : ∀ k ∈ S.ks, ∀ k' ∈ S.ks, A.l k = A.l k' → k = k'
  nr : ∀ k ∈ S.ks, S.rd ≠ none → A.l k ≠ A.r
noncomputable def SOwn (A : SA) (S : SS) (a : Addr) : Prop := a = A.ps ∨ a = A.dx ∨ a = A.dn ∨ (∃ k ∈ S.ks, a = A.a k ∨ a = A.da k ∨ a = A.l k) ∨ (S.rd ≠ none ∧ a = A.r)
noncomputable def Keeps (P : Addr → Prop) (σ σ' : Sto) : Prop := ∀ a o, σ a = some o → ¬ P a → σ' a = some o
structure Turn (σ : Sto) (A : SA) (S : SS) (σ' : Sto) (A' : SA) (S' : SS) : Prop where
  at_ : SAt σ' A' S'
  keep : ∀ a o, σ a = some o → ¬ SOwn A S a → σ' a = some o ∧ ¬ SOwn A' S' a
  ps : A'.ps = A.ps
noncomputable def fset {β : Type} (f : Int → β) (k : Int) (v : β) : Int → β := fun x => if x = k then v else f x

inductive SpNII (as : List AV) (σ : Sto) (Q : AV → Sto → Prop) : Prop
  | mk : ∀ p k dx, (as = [.ptr p, .int k]) → (σ p = some (.slots 75 dx [])) → (σ dx = some (.attrs [])) → (∀ l σ', σ l = Option.none → σ' p = some (.slots 75 dx [some (.int k), some (.int 0), some (.ptr l)]) → σ' l = some (.list []) → (∀ a, a ≠ p → a ≠ l → σ' a = σ a) → Q .none σ') → SpNII as σ Q
noncomputable def spNI : List AV → OD := fun as σ Q _ => SpNII as σ Q
noncomputable def addN (S : SS) (k : Int) : SS := { S with ks := if k ∈ S.ks then S.ks else S.ks ++ [k], np := if k ∈ S.ks then S.np else fset S.np k 0, su := if k ∈ S.ks then S.su else fset S.su k [] }
inductive SpGetI (as : List AV) (σ : Sto) (Q : AV → Sto → Prop) : Prop
  | mk : ∀ A S k, (as = [.ptr A.ps, .int k]) → (SAt σ A S) → (S.ks.length < 900) → (S.rd = none) → (∀ A' σ', Turn σ A S σ' A' (addN S k) → Q (.ptr (A'.a k)) σ') → SpGetI as σ Q
noncomputable def spGet : List AV → OD := fun as σ Q _ => SpGetI as σ Q
noncomputable def addS (S : SS) (k : Int) (ps : List Int) : SS := { addN S k with np := fset (addN S k).np k ((addN S k).np k + ps.length), su := fun x => (addN S k).su x ++ List.replicate (ps.count x) k }
inductive SpAddI (as : List AV) (σ : Sto) (Q : AV → Sto → Prop) : Prop
  | mk : ∀ A S k ps, (as = .ptr A.ps :: .int k :: iL ps) → (SAt σ A S) → (S.ks.length < 800) → (ps.length < 900) → (S.rd = none) → ((∀ p ∈ ps, p ∈ (addN S k).ks)) → ((∀ x ∈ S.ks, (S.su x).length + ps.length < 900)) → (∀ A' σ', Turn σ A S σ' A' (addS S k ps) → Q .none σ') → SpAddI as σ Q
noncomputable def spAdd : List AV → OD := fun as σ Q _ => SpAddI as σ Q
noncomputable def emp : SS := ⟨[], fun _ => 0, fun _ => [], none, 0, 0⟩
noncomputable def Ring (S : SS) (r : List Int) : Prop := 2 ≤ r.length ∧ r.head? = r.getLast? ∧ r.dropLast.Nodup ∧ (∀ x ∈ r, x ∈ S.ks) ∧ ∀ i, i + 1 < r.length → r.getD (i + 1) 0 ∈ S.su (r.getD i 0)
inductive SpFCI (as : List AV) (σ : Sto) (Q : AV → Sto → Prop) : Prop
  | mk : ∀ A S, (as = [.ptr A.ps]) → (SAt σ A S) → (S.ks.length < 200) → ((∀ k ∈ S.ks, ∀ s ∈ S.su k, s ∈ S.ks)) → ((∀ k ∈ S.ks, (S.su k).length < 900)) → ((∀ σ', (∃ rk : Int → Nat, ∀ k ∈ S.ks, ∀ s ∈ S.su k, rk s < rk k) → Keeps (fun _ => False) σ σ' → Q .none σ')) → ((∀ σ' q r, Ring S r → Keeps (fun _ => False) σ σ' → σ q = Option.none → σ' q = some (.list (iL r)) → Q (.ptr q) σ')) → SpFCI as σ Q
noncomputable def spFC : List AV → OD := fun as σ Q _ => SpFCI as σ Q
noncomputable def prepS (S : SS) : SS := { S with rd := some (S.ks.filter fun k => S.np k = 0) }
noncomputable def readyS (S : SS) (rs : List Int) : SS := { S with np := fun x => if x ∈ rs then -1 else S.np x, rd := some [], po := S.po + rs.length }
inductive SpRdyI (as : List AV) (σ : Sto) (Q : AV → Sto → Prop) : Prop
  | mk : ∀ A S rs, (as = [.ptr A.ps]) → (SAt σ A S) → (S.rd = some rs) → (rs.length < 900) → ((∀ x ∈ rs, x ∈ S.ks)) → ((∀ A' σ', Turn σ A S σ' A' (readyS S rs) → Q (.tup (iL rs)) σ')) → SpRdyI as σ Q
noncomputable def spRdy : List AV → OD := fun as σ Q _ => SpRdyI as σ Q
inductive SpActI (as : List AV) (σ : Sto) (Q : AV → Sto → Prop) : Prop
  | mk : ∀ A S rs, (as = [.ptr A.ps]) → (SAt σ A S) → (S.rd = some rs) → (rs.length < 900) → (Q (.bool (decide (S.fi < S.po) || !rs.isEmpty)) σ) → SpActI as σ Q
noncomputable def spAct : List AV → OD := fun as σ Q _ => SpActI as σ Q
noncomputable def tellS (S : SS) (s : Int) : SS := { S with np := fset S.np s (S.np s - 1), rd := if S.np s - 1 = 0 then S.rd.map (· ++ [s]) else S.rd }
noncomputable def doneS (S : SS) (k : Int) : SS := let S' := (S.su k).foldl tellS { S with np := fset S.np k (-2) }; { S' with fi := S'.fi + 1 }
end Mine
-- N1
namespace Mine
section
variable {B : Bs} {fc : FC} {R : Rm}
noncomputable def SAugN (i : Nat) (f : AV → AV → OD) (a : ED) : SD := fun st Q X => match lget st.m i with
  | some v => a st (fun va st => f v va st.σ (fun r σ => Q .next ⟨lset st.m i (some r), σ⟩) (fun x σ => X x ⟨st.m, σ⟩)) X
  | none => False
theorem SemS_augN {x : Str} {p pos : Pos} {i : Nat} {op : Operator} {value : Expr} {f : AV → AV → OD} {a : ED} (hF : FcOk fc) (hi : SlotAt fc.slots i x .loc) (hf : SemO2 B R (inplaceOp op) f) (ha : SemE B fc R value a) :
    SemS B fc R (.AugAssign (.Name x p) op value pos) (SAugN i f a) := by
  intro env A st s Q X S d
  have hk := hF.loc hi
  unfold SAugN at d
  cases q : lget st.m i with
  | none => rw [q] at d; exact d.elim
  | some av =>
    rw [q] at d
    obtain ⟨mm, n, h⟩ := S.rf.ns
    have r := h i x hi.get
    rw [q] at r
    obtain ⟨v, e, r⟩ := RelO.someE r
    refine wpAny_AugAssign_Name (wpAny_loadName_local S.eo.kind ((S.eo.kindOf x).trans hk) n e ?_)
    refine wpAny_mono (ha env A st s _ X S d) ?_ fun _ _ e => e
    refine fun v₁ s₁ => PV.el fun av₁ st₁ S₁ x₁ r₁ q₁ => ?_
    refine wpAny_mono (hf A st₁.σ s₁ _ _ _ _ _ _ S₁.ao S₁.rh (RelV.ext x₁ _ r) r₁ q₁) ?_ fun v s' h => (PX.op S₁ h).of x₁
    refine fun v₂ s₂ => PO.el fun av₂ σ₂ rh₂ x₂ r₂ q₂ => ?_
    have S₂ := S₁.op rh₂ x₂
    have y₂ := x₁.trans (S₁.extW x₂)
    exact store_loc S₂ r₂ hk hi.get fun s' S' x' => ⟨.next, _, S', y₂.trans x', rfl, q₂⟩
theorem raiseC_px {x : Str} {C : Addr} {newId : String} {bm : List Value} {B' initId : String} {p cpos pos : Pos} {es : List Expr} {ds : List ED} (FB : ExcBaseFacts B' newId initId bm) (O : OwnCls x C bm newId B.mg B.h₀) (hc : XCls (.ref C)) (hR : R.he = Option.none)
    (hn : SemE B fc R (.Name x p) (Con (.con (.ref C)))) (hs : SemAs B fc R es ds) (hns : es.all notStar = true) :
    SemS B fc R (.Raise (some (.Call (.Name x p) es [] cpos)) none pos) (SRaise (.ref C) ds) := by
  intro env A st s Q X S d
  obtain ⟨tl, N, nm, q, bs, hdct, sn, sub, ab, col, dd, k0, k1, k2, k3, k5, mN, hC, hN, hni, T⟩ := O.obj
  rw [arm_exec_Raise]
  refine wpAny_bind (wpAny_standAt (wpAny_raiseStmt_made_sub (C := C) (nm := nm) (q := q) (N := N) (bs := bs) (bm := tl) (hdct := hdct) (sn := sn) (sub := sub) (ab := ab) (col := col) (dd := dd) (k0 := k0) (k1 := k1) (k2 := k2) (k3 := k3) (k5 := k5) (newId := newId) (T.hasType FB.hasBase) (handled_none hR S.ao) ?_))
  refine wpAny_bind (wpAny_mono (wpAny_Call_ofName (wpAny_mono (hn env A st s (fun v st' => v = .con (.ref C) ∧ SRaise (.ref C) ds st' Q X) X S ⟨rfl, d⟩) ?_ fun _ _ e => e)) (fun v s₃ h₃ => wpAny_bind (wpAny_standAt (wpAny_pure h₃))) fun _ _ e => e)
  refine fun v s₁ => PV.el fun av st₁ S₁ x₁ r₁ qq => ?_
  obtain ⟨rfl, q₁⟩ := qq
  cases r₁
  unfold callWith
  refine wpAny_bind (wpAny_holding (evalArgs_ok hs hns S₁ q₁ (fun vs s' h => ?_) fun e s' h => h.of x₁))
  have hl : vs.length ≤ sizeLine := PVs.el (fun avs st' S' x' r' q' => sizeOk (by rw [r'.length]; exact q'.1)) h
  have hk : ∀ b o, B.h₀.get? b = some o → s'.heap.get? b = some o := PVs.el (fun avs st' S' x' r' q' => S'.rh.old) h
  refine wpAny_bind (wpAny_standAt ?_)
  obtain ⟨hp, g, dd', tk, os⟩ := s'
  simp only [plainAs hns cpos env]
  refine wpAny_bind (wpAny_keeperOf_exc (hk _ _ hC) ?_)
  refine wpAny_bind (wpAny_gone (wpAny_call_exc_subT (hrest := hl) FB (T.keeps hk) (hk _ _ hC) (hN.keeps hk) hni fun h' e m gone => wpAny_bind (wpAny_holding (wpAny_point (wpAny_pure ?_)))))
  obtain ⟨t, h1, h2, h3⟩ := m.there
  exact ⟨e, t, rfl, m.keeps _ _ (hk _ _ hC), h1, (made_px hc h m gone).of x₁⟩
noncomputable def cycO (B : Bs) : Prop := OwnClsQ (Str.ofString "CycleError") 90 [.type "ValueError", .type "Exception", .type "BaseException", .type "object"] "ValueError.__new__" B.mg B.h₀
theorem xcls_cyc : XCls (.ref 90) := ⟨nofun, nofun, nofun, nofun, nofun⟩
theorem SemE_cyc {p : Pos} (hB : Tp B) (hk : fc.names.lookup (Str.ofString "CycleError") = some .globalImplicit) : SemE B fc R (.Name (Str.ofString "CycleError") p) (Con (.con (.ref 90))) := SemE_glob hk (gl_at hB (by kernel_rfl)) (by kernel_rfl)
theorem SemS_raiseC {p cpos pos : Pos} {es : List Expr} {ds : List ED} (hB : Tp B) (hO : cycO B) (hR : R.he = Option.none) (hk : fc.names.lookup (Str.ofString "CycleError") = some .globalImplicit) (hs : SemAs B fc R es ds) (hns : es.all notStar = true) :
    SemS B fc R (.Raise (some (.Call (.Name (Str.ofString "CycleError") p) es [] cpos)) none pos) (SRaise (.ref 90) ds) := raiseC_px PySem.F.excBase_ValueError (OwnClsQ.own hO) xcls_cyc hR (SemE_cyc hB hk) hs hns
theorem SemS_tryCyc {p : Pos} {n : Str} {i : Nat} {b₀ : Stmt} {suite : List Stmt} {tpos pos : Pos} {body : List Stmt} {b : SD} {hd : Addr → AX → SD} (hB : Tp B) (hR : R.he = Option.none) (hk : fc.names.lookup (Str.ofString "CycleError") = some .globalImplicit) (hF : FcOk fc) (hi : SlotAt fc.slots i n .loc) (hb : SemSs B fc R body b)
    (hs : ∀ ea y, SemSs B fc ⟨R.lv, some (ea, y)⟩ (b₀ :: suite) (hd ea y)) : SemS B fc R (.Try body [.ExceptHandler (some (.Name (Str.ofString "CycleError") p)) (some n) (b₀ :: suite) tpos] [] [] pos) (STry (.ref 90) b hd (some i)) :=
  SemS_tryAs hR (fun _ => SemE_cyc hB hk) (takes_at hB (by kernel_rfl)) hi (hF.loc hi) hb hs
noncomputable def EArgC (ea : Addr) (y : AX) (a : ED) : ED := fun st Q X => a st (fun v st => v = .con (.ref ea) ∧ y.cls = .ref 90 ∧ Q (.tup y.args) st) X
theorem SemE_argsC {lv : Nat} {ea : Addr} {y : AX} {o : Expr} {pos : Pos} {a : ED} (hO : cycO B) (hbase : ∀ env, attributeBase o (Str.ofString "args") env (eval o env) = eval o env) (h : SemE B fc ⟨lv, some (ea, y)⟩ o a) :
    SemE B fc ⟨lv, some (ea, y)⟩ (.Attribute o (Str.ofString "args") pos) (EArgC ea y a) := by
  intro env A st s Q X S d
  rw [arm_eval_Attribute, hbase env]
  refine wpAny_bind (wpAny_mono (h env A st s _ X S d) ?_ fun _ _ e => e)
  refine fun v s₁ => PV.el fun av st₁ S₁ x₁ r₁ qq => ?_
  obtain ⟨rfl, hc, q₁⟩ := qq
  cases r₁
  refine wpAny_bind (wpAny_standAt (wpAny_bind (wpAny_holding ?_)))
  rcases S₁.ao.handled with ⟨_, h⟩ | ⟨e, y', oe, vs, tv, h0, h1, h2, h3, h4, h5, h6, h7, h8⟩
  · cases h
  · cases h0
    obtain ⟨t, ts, rfl, ht, hn, rt⟩ := h8
    have key := fun (Q' : Value → Shared → Prop) (hQ : Q' (.ref t) { s₁ with toks := s₁.toks + 1 }) => (show wpAny B.M A (getAttr (.ref ea) "args" true) Q' (PX B fc env A ⟨lv, some (ea, y)⟩ st s X) s₁ by
      have hO' := OwnClsQ.keeps hO S₁.rh.old
      obtain ⟨hp, g, dd, tk, os⟩ := s₁
      exact args_of_own PySem.F.attrBase_ValueError hO' h2 (h6.trans hc) h3 h7 hQ)
    refine key _ (wpAny_bind (wpAny_letTemporaryGo (wpAny_pure ?_)))
    exact (PV.op S₁ (PO.valT (x := .tup y.args) S₁.rh ⟨t, ts, rfl, ht, hn, rt⟩ q₁)).of x₁
end
end Mine
-- N2
namespace Mine
section
variable {prog : Program} {w : World} {A : Around} {E : Value → Shared → Prop} {s : Shared}
theorem sliceNil {sl : Addr} {u : Tok} {Q : Int × Int × Nat → Shared → Prop} (hs : s.heap.IsSliceOf sl (.int 1 u) .none .none) (h : Q (0, 1, 0) s) :
    wpAny (model prog w) A (Builtin.Slice.sliceApplied (.ref sl) (pure (0 : Int))) Q E s := by
  obtain ⟨os, hos, hcs, hds⟩ := id hs
  unfold Builtin.Slice.sliceApplied Builtin.Slice.sliceFields
  refine wpAny_bind (wpAny_bind (wpAny_field hos hds (x := .int 1 u) rfl (wpAny_bind (wpAny_field hos hds (x := .none) rfl (wpAny_bind (wpAny_field hos hds (x := .none) rfl (wpAny_pure ?_)))))))
  refine wpAny_bind (slicePart_none ?_)
  show wpAny _ _ (if ((1 : Int) == 0) = true then _ else _) _ _ s
  rw [if_neg (by decide)]
  refine wpAny_bind (slicePart_int (wpAny_bind (slicePart_none (wpAny_bind (wpAny_pure ?_)))))
  exact wpAny_pure h
theorem getItemNil {t sl : Addr} {u : Tok} {Q : Value → Shared → Prop} (ht : IsTup s.heap t #[]) (hs : s.heap.IsSliceOf sl (.int 1 u) .none .none) (h : Q (.ref t) s) : wpAny (model prog w) A (getItem (.ref t) (.ref sl)) Q E s := by
  obtain ⟨os, hos, hcs, hds⟩ := id hs
  have hTs : s.TypeIs (.ref sl) "slice" := ⟨os, hos, hcs⟩
  unfold getItem
  try with_reducible refine wpAny_holding ?_
  first | refine wpAny_bind (wpAny_pure ?_) | skip
  refine wpAny_bind (wpAny_sequenceKey ht.typeIs (by decide) ?_)
  refine wpAny_bind (wpAny_callSpecial?_slot (name := Str.ofString "__getitem__") ht.typeIs slot_tuple_getitem
    (wpAny_call_entry slot_tuple_getitem ht.typeIs entry_tuple_getitem ?_ (args_tuple_getitem _ _)))
  show wpAny _ _ (Builtin.Tuple.tupleItemsOf (.ref t) >>= _) _ _ s
  refine wpAny_bind (tupleItemsOf_ ht ?_)
  refine wpAny_bind (wpAny_typeOf hTs ?_)
  rw [if_pos (by decide)]
  refine wpAny_bind (sliceNil hs ?_)
  show wpAny _ _ (if ((0 : Int) == 0 && (1 : Int) == 1 && (0 : Nat) == 0) = true then _ else _) _ _ s
  rw [if_pos (by decide)]
  refine wpAny_bind (wpAny_bind (wpAny_typeOf ht.typeIs (wpAny_pure ?_)))
  show wpAny _ _ (if (Value.type "tuple" == Value.type "tuple") = true then _ else _) _ _ s
  rw [if_pos (by decide)]
  exact wpAny_bind (wpAny_rule (wpAny_pure ⟨_, rfl, wpAny_pure h⟩))
end
section
variable {B : Bs} {fc : FC} {R : Rm}
noncomputable def oSlice1 : AV → OD := fun o σ Q _ => ∃ xs, An3 (o = .tup xs) (xs.length < 1000) (Q (.tup (xs.drop 1)) σ)
theorem SemE_slice1 {value : Expr} {k : Nat} {p pos lp : Pos} {o : ED} (ho : SemE B fc R value o) (hs : ∀ o i, ∃ ops, subscripted (.Slice (some (.Constant (.int 1) k lp)) none none p) false o i = operate ops (getItem o i)) :
    SemE B fc R (.Subscript value (.Slice (some (.Constant (.int 1) k lp)) none none p) pos) (Op1 oSlice1 o) := by
  intro env A st s Q X S d
  refine Subscript_ (wpAny_mono (ho env A st s _ X S d) ?_ fun _ _ e => e)
  refine fun v₁ s₁ => PV.el fun av₁ st₁ S₁ x₁ r₁ q₁ => ?_
  obtain ⟨xs, rfl, hl, hq⟩ := q₁
  have none_ := fun (s : Shared) (st : AS) (Q : AV → AS → Prop) (S : St B fc env A R st s) (q : Q .none st) => (SemP_none (B := B) (fc := fc) (R := R)) env A st s Q X S q
  refine wpAny_Slice (wpAny_mono ((SemP_some (SemE_int (B := B) (fc := fc) (R := R) 1 k lp)) env A st₁ s₁ (fun v st => v = .int 1 ∧ st = st₁) X S₁ ⟨rfl, rfl⟩) ?_ fun _ _ e => e.of x₁)
  refine fun v₂ s₂ => PV.el fun av₂ st₂ S₂ x₂ r₂ qq => ?_
  obtain ⟨rfl, rfl⟩ := qq
  obtain ⟨u, rfl⟩ := r₂
  rw [evalPart_none]
  refine wpAny_pure (wpAny_pure ?_)
  obtain ⟨t, vs, rfl, h1, h2, h3⟩ := RelV.ext x₂ (.tup xs) r₁
  obtain ⟨rh', x'⟩ := mvPush S₂.rh { cls := .type "slice", data := .fields #[.int 1 u, .none, .none] } s₂.toks
  have S' := S₂.op rh' x'
  have h1' : (s₂.heap.push { cls := .type "slice", data := .fields #[.int 1 u, .none, .none] }).get? t = some (tupO vs) := Heap.get?_push_of_some _ h1
  have h3' := RelVs.ext x' _ h3
  obtain ⟨ops, hops⟩ := hs (.ref t) (.ref s₂.heap.objs.size)
  have y := (x₁.trans x₂).trans (S₂.extW x')
  cases xs with
  | nil =>
    cases h3'
    exact tail_any (T := "tuple") (ops := ops) ⟨_, h1', rfl⟩ slot_tuple_getitem.lookup (getItemNil ⟨_, h1', rfl, 0, rfl⟩ (Heap.IsSliceOf.new ..) ((PV.op S' (PO.val (x := .tup []) rh' ⟨t, [], rfl, h1', h2, rfl⟩ hq)).of y)) hops
  | cons x xs =>
    obtain ⟨v, vs, rfl, g1, g2⟩ := h3'
    have hlen := g2.length
    refine tail_any (T := "tuple") (ops := ops) ⟨_, h1', rfl⟩ slot_tuple_getitem.lookup (getItem_tuple_from (a := 1) ⟨_, h1', rfl, 0, rfl⟩ (Heap.IsSliceOf.new ..) (Nat.le_refl 1) (by simp) ?_ (sizeOk (by simp [hlen]; simpa using hl))) hops
    have := PO.tupP (t := s₂.toks) (Q := fun r σ => Q r ⟨st₂.m, σ⟩) rh' g2 hq
    exact (PV.op S' this).of y
end
end Mine
section
set_option maxHeartbeats 4000000
-- G2d
namespace Mine
noncomputable abbrev bodyOf (B : Bs) (n : Addr) : List Stmt := fdBody (fdAt (KK B.w.params) n)
noncomputable abbrev fcNI : FC := ⟨[(Str.ofString "self", .loc), (Str.ofString "node", .loc)], [(Str.ofString "self", .local), (Str.ofString "node", .local)]⟩
noncomputable def dNI (B : Bs) (R : Rm) (hB : Tp B) (hF : FcOk fcNI) : { d : SD // SemSs B fcNI R (bodyOf B 71) d } := by
  apply Subtype.mk
  case property =>
    change SemSs B _ R (_ :: _) _
    exact (SemSs_cons (SemS_assign (SemE_locS hF (.tail .head)) (SemG_attrS (okS0 hB) (SemE_locS hF .head)) (fun _ _ => rfl) (fun _ => rfl) (fun _ => rfl)) (SemSs_cons (SemS_assign (SemE_int _ _ _) (SemG_attrS (okS1 hB) (SemE_locS hF .head)) (fun _ _ => rfl) (fun _ => rfl) (fun _ => rfl)) (SemSs_one (SemS_assign (SemE_list SemAs_nil) (SemG_attrS (okS2 hB) (SemE_locS hF .head)) (fun _ _ => rfl) (fun _ => rfl) (fun _ => rfl)))))
noncomputable abbrev fcGet : FC := ⟨[(Str.ofString "self", .loc), (Str.ofString "node", .loc), (Str.ofString "result", .loc)], [(Str.ofString "self", .local), (Str.ofString "node", .local), (Str.ofString "result", .local), (Str.ofString "_NodeInfo", .globalImplicit)]⟩
noncomputable def dGet (B : Bs) (R : Rm) (hB : Tp B) (hF : FcOk fcGet) (c__NodeInfo : SemC B R (.ref 75) (oMakeS 75 spNI)) : { d : SD // SemSs B fcGet R (bodyOf B 115) d } := by
  apply Subtype.mk
  case property =>
    change SemSs B _ R (_ :: _) _
    exact (SemSs_cons (SemS_if (SemB_cmp semIs semTru (SemE_named (SemE_mget (fun _ => rfl) rfl rfl (by decide) (SemE_attrI (okA1 hB) (fun _ => rfl) (SemE_locS hF .head)) (SemAs_cons rfl (SemE_locS hF (.tail .head)) SemAs_nil)) (SemG_locS hF (.tail (.tail .head)))) (SemE_none _ _) rfl) (SemSs_one (SemS_assign2 (SemE_fnS hB c__NodeInfo (by kernel_rfl) (by kernel_rfl) (NameAt.look (.tail (.tail (.tail .head))) hF.nd) (by kernel_rfl) rfl (SemAs_cons rfl (SemE_locS hF (.tail .head)) SemAs_nil)) (SemG_item semSetItem (SemE_attrI (okA1 hB) (fun _ => rfl) (SemE_locS hF .head)) (SemE_locS hF (.tail .head))) (SemG_locS hF (.tail (.tail .head))) (fun _ => rfl) (fun _ => rfl))) SemSs_nil) (SemSs_one (SemS_ret (SemE_locS hF (.tail (.tail .head))))))
noncomputable abbrev fcAdd : FC := ⟨[(Str.ofString "self", .loc), (Str.ofString "node", .loc), (Str.ofString "predecessors", .loc), (Str.ofString "nodeinfo", .loc), (Str.ofString "pred", .loc), (Str.ofString "pred_info", .loc)], [(Str.ofString "self", .local), (Str.ofString "node", .local), (Str.ofString "predecessors", .local), (Str.ofString "nodeinfo", .local), (Str.ofString "pred", .local), (Str.ofString "pred_info", .local), (Str.ofString "ValueError", .globalImplicit), (Str.ofString "len", .globalImplicit)]⟩
noncomputable def dAdd (B : Bs) (R : Rm) (hB : Tp B) (hF : FcOk fcAdd) (hR : R.he = none) (m__get_nodeinfo : MethOk B.K 172 (Str.ofString "_get_nodeinfo") 115) (c__get_nodeinfo : SemC B R (.ref 115) spGet) : { d : SD // SemSs B fcAdd R (bodyOf B 122) d } := by
  apply Subtype.mk
  case property =>
    change SemSs B _ R (_ :: _) _
    exact (SemSs_cons (SemS_if (SemB_cmp semIsNot semTru (SemE_attrI (okA2 hB) (fun _ => rfl) (SemE_locS hF .head)) (SemE_none _ _) rfl) (SemSs_one SemS_bot) SemSs_nil) (SemSs_cons (SemS_assign (SemE_mthI hB c__get_nodeinfo m__get_nodeinfo (by kernel_rfl) (fun _ => rfl) rfl rfl (by decide) (SemE_locS hF .head) (SemAs_cons rfl (SemE_locS hF (.tail .head)) SemAs_nil)) (SemG_locS hF (.tail (.tail (.tail .head)))) (fun _ _ => rfl) (fun _ => rfl) (fun _ => rfl)) (SemSs_cons (SemS_augS (okS1 hB) (SemE_locS hF (.tail (.tail (.tail .head)))) (SemE_lenS hB (NameAt.look (.tail (.tail (.tail (.tail (.tail (.tail (.tail .head))))))) hF.nd) rfl (SemAs_cons rfl (SemE_locS hF (.tail (.tail .head))) SemAs_nil))) (SemSs_one (SemS_forS hR (fun _ _ => rfl) (SemE_locS hF (.tail (.tail .head))) (SemG_locS hF (.tail (.tail (.tail (.tail .head))))) (SemSs_cons (SemS_assign (SemE_mthI hB c__get_nodeinfo m__get_nodeinfo (by kernel_rfl) (fun _ => rfl) rfl rfl (by decide) (SemE_locS hF .head) (SemAs_cons rfl (SemE_locS hF (.tail (.tail (.tail (.tail .head))))) SemAs_nil)) (SemG_locS hF (.tail (.tail (.tail (.tail (.tail .head)))))) (fun _ _ => rfl) (fun _ => rfl) (fun _ => rfl)) (SemSs_one (SemS_expr (SemE_mappend (fun _ => rfl) rfl rfl (by decide) (SemE_attrS (okS2 hB) (fun _ => rfl) (SemE_locS hF (.tail (.tail (.tail (.tail (.tail .head))))))) (SemAs_cons rfl (SemE_locS hF (.tail .head)) SemAs_nil)) (fun _ => rfl)))) SemSs_nil)))))
noncomputable abbrev fcInit : FC := ⟨[(Str.ofString "self", .loc), (Str.ofString "graph", .loc), (Str.ofString "node", .loc), (Str.ofString "predecessors", .loc)], [(Str.ofString "self", .local), (Str.ofString "graph", .local), (Str.ofString "node", .local), (Str.ofString "predecessors", .local)]⟩
noncomputable def dInit (B : Bs) (R : Rm) (hB : Tp B) (hF : FcOk fcInit) (hR : R.he = none) : { d : SD // SemSs B fcInit R (bodyOf B 108) d } := by
  apply Subtype.mk
  case property =>
    change SemSs B _ R (_ :: _) _
    exact (SemSs_cons (SemS_assign SemE_dict0 (SemG_attrI (okA1 hB) (SemE_locS hF .head)) (fun _ _ => rfl) (fun _ => rfl) (fun _ => rfl)) (SemSs_cons (SemS_assign (SemE_none _ _) (SemG_attrI (okA2 hB) (SemE_locS hF .head)) (fun _ _ => rfl) (fun _ => rfl) (fun _ => rfl)) (SemSs_cons (SemS_assign (SemE_int _ _ _) (SemG_attrI (okA3 hB) (SemE_locS hF .head)) (fun _ _ => rfl) (fun _ => rfl) (fun _ => rfl)) (SemSs_cons (SemS_assign (SemE_int _ _ _) (SemG_attrI (okA4 hB) (SemE_locS hF .head)) (fun _ _ => rfl) (fun _ => rfl) (fun _ => rfl)) (SemSs_one (SemS_if (SemB_cmp semIsNot semTru (SemE_locS hF (.tail .head)) (SemE_none _ _) rfl) (SemSs_one SemS_bot) SemSs_nil))))))
noncomputable abbrev fcPrep : FC := ⟨[(Str.ofString "self", .loc), (Str.ofString "cycle", .loc)], [(Str.ofString "self", .local), (Str.ofString "cycle", .local), (Str.ofString "ValueError", .globalImplicit), (Str.ofString "CycleError", .globalImplicit)]⟩
noncomputable def dPrep (B : Bs) (R : Rm) (hB : Tp B) (hF : FcOk fcPrep) (hR : R.he = none) (hO : cycO B) (m__find_cycle : MethOk B.K 172 (Str.ofString "_find_cycle") 162) (c__find_cycle : SemC B R (.ref 162) spFC) : { d : SD // SemSs B fcPrep R (bodyOf B 127) d } := by
  apply Subtype.mk
  case property =>
    change SemSs B _ R (_ :: _) _
    exact (SemSs_cons (SemS_if (SemB_cmp semIsNot semTru (SemE_attrI (okA2 hB) (fun _ => rfl) (SemE_locS hF .head)) (SemE_none _ _) rfl) (SemSs_one SemS_bot) SemSs_nil) (SemSs_cons (SemS_assign (SemE_comp1 hR (.loc (.loc .nil)) rfl (by decide) (by kernel_rfl) (fun _ _ => rfl) (SemE_mvalues (fun _ => rfl) rfl rfl (by decide) (SemE_attrI (okA1 hB) (fun _ => rfl) (SemE_locS hF .head)) SemAs_nil) (SemG_locK .head (by kernel_rfl)) (SemIf_one (SemB_cmp semEq semTru (SemE_attrS (okS1 hB) (fun _ => rfl) (SemE_locK .head (by kernel_rfl) (by kernel_rfl))) (SemE_int _ _ _) rfl)) (SemE_attrS (okS0 hB) (fun _ => rfl) (SemE_locK .head (by kernel_rfl) (by kernel_rfl)))) (SemG_attrI (okA2 hB) (SemE_locS hF .head)) (fun _ _ => rfl) (fun _ => rfl) (fun _ => rfl)) (SemSs_cons (SemS_assign (SemE_mthI hB c__find_cycle m__find_cycle (by kernel_rfl) (fun _ => rfl) rfl rfl (by decide) (SemE_locS hF .head) SemAs_nil) (SemG_locS hF (.tail .head)) (fun _ _ => rfl) (fun _ => rfl) (fun _ => rfl)) (SemSs_one (SemS_if (SemB_val semTru (SemE_locS hF (.tail .head)) (fun _ => rfl)) (SemSs_one (SemS_raiseC hB hO hR (NameAt.look (.tail (.tail (.tail .head))) hF.nd) (SemAs_cons rfl (SemE_join1 (SemE_str _ _ _)) (SemAs_cons rfl (SemE_locS hF (.tail .head)) SemAs_nil)) rfl)) SemSs_nil)))))
noncomputable abbrev fcRdy : FC := ⟨[(Str.ofString "self", .loc), (Str.ofString "result", .loc), (Str.ofString "n2i", .loc), (Str.ofString "node", .loc)], [(Str.ofString "self", .local), (Str.ofString "result", .local), (Str.ofString "n2i", .local), (Str.ofString "node", .local), (Str.ofString "ValueError", .globalImplicit), (Str.ofString "tuple", .globalImplicit), (Str.ofString "_NODE_OUT", .globalImplicit), (Str.ofString "len", .globalImplicit)]⟩
noncomputable def dRdy (B : Bs) (R : Rm) (hB : Tp B) (hF : FcOk fcRdy) (hR : R.he = none) : { d : SD // SemSs B fcRdy R (bodyOf B 134) d } := by
  apply Subtype.mk
  case property =>
    change SemSs B _ R (_ :: _) _
    exact (SemSs_cons (SemS_if (SemB_cmp semIs semTru (SemE_attrI (okA2 hB) (fun _ => rfl) (SemE_locS hF .head)) (SemE_none _ _) rfl) (SemSs_one SemS_bot) SemSs_nil) (SemSs_cons (SemS_assign (SemE_tupleS hB (NameAt.look (.tail (.tail (.tail (.tail (.tail .head))))) hF.nd) rfl (SemAs_cons rfl (SemE_attrI (okA2 hB) (fun _ => rfl) (SemE_locS hF .head)) SemAs_nil)) (SemG_locS hF (.tail .head)) (fun _ _ => rfl) (fun _ => rfl) (fun _ => rfl)) (SemSs_cons (SemS_assign (SemE_attrI (okA1 hB) (fun _ => rfl) (SemE_locS hF .head)) (SemG_locS hF (.tail (.tail .head))) (fun _ _ => rfl) (fun _ => rfl) (fun _ => rfl)) (SemSs_cons (SemS_forS hR (fun _ _ => rfl) (SemE_locS hF (.tail .head)) (SemG_locS hF (.tail (.tail (.tail .head)))) (SemSs_one (SemS_assign (SemE_nOut hB (NameAt.look (.tail (.tail (.tail (.tail (.tail (.tail .head)))))) hF.nd)) (SemG_attrS (okS1 hB) (SemE_Subscript (semItem (fun _ _ => rfl)) (SemE_locS hF (.tail (.tail .head))) (SemE_locS hF (.tail (.tail (.tail .head)))))) (fun _ _ => rfl) (fun _ => rfl) (fun _ => rfl))) SemSs_nil) (SemSs_cons (SemS_expr (SemE_mclear (fun _ => rfl) rfl rfl (by decide) (SemE_attrI (okA2 hB) (fun _ => rfl) (SemE_locS hF .head)) SemAs_nil) (fun _ => rfl)) (SemSs_cons (SemS_augI (okA3 hB) (SemE_locS hF .head) (SemE_lenS hB (NameAt.look (.tail (.tail (.tail (.tail (.tail (.tail (.tail .head))))))) hF.nd) rfl (SemAs_cons rfl (SemE_locS hF (.tail .head)) SemAs_nil))) (SemSs_one (SemS_ret (SemE_locS hF (.tail .head))))))))))
noncomputable abbrev fcAct : FC := ⟨[(Str.ofString "self", .loc)], [(Str.ofString "self", .local), (Str.ofString "ValueError", .globalImplicit), (Str.ofString "bool", .globalImplicit)]⟩
noncomputable def dAct (B : Bs) (R : Rm) (hB : Tp B) (hF : FcOk fcAct) (hR : R.he = none) : { d : SD // SemSs B fcAct R (bodyOf B 141) d } := by
  apply Subtype.mk
  case property =>
    change SemSs B _ R (_ :: _) _
    exact (SemSs_cons (SemS_if (SemB_cmp semIs semTru (SemE_attrI (okA2 hB) (fun _ => rfl) (SemE_locS hF .head)) (SemE_none _ _) rfl) (SemSs_one SemS_bot) SemSs_nil) (SemSs_one (SemS_ret (SemE_or semTru (SemE_Compare semLt (SemE_attrI (okA4 hB) (fun _ => rfl) (SemE_locS hF .head)) (SemE_attrI (okA3 hB) (fun _ => rfl) (SemE_locS hF .head)) rfl) (SemE_boolS hB (NameAt.look (.tail (.tail .head)) hF.nd) rfl (SemAs_cons rfl (SemE_attrI (okA2 hB) (fun _ => rfl) (SemE_locS hF .head)) SemAs_nil))))))
noncomputable abbrev fcDone : FC := ⟨[(Str.ofString "self", .loc), (Str.ofString "nodes", .loc), (Str.ofString "n2i", .loc), (Str.ofString "node", .loc), (Str.ofString "nodeinfo", .loc), (Str.ofString "stat", .loc), (Str.ofString "successor", .loc), (Str.ofString "successor_info", .loc)], [(Str.ofString "self", .local), (Str.ofString "nodes", .local), (Str.ofString "n2i", .local), (Str.ofString "node", .local), (Str.ofString "nodeinfo", .local), (Str.ofString "stat", .local), (Str.ofString "successor", .local), (Str.ofString "successor_info", .local), (Str.ofString "ValueError", .globalImplicit), (Str.ofString "_NODE_OUT", .globalImplicit), (Str.ofString "_NODE_DONE", .globalImplicit)]⟩
noncomputable def dDone (B : Bs) (R : Rm) (hB : Tp B) (hF : FcOk fcDone) (hR : R.he = none) : { d : SD // SemSs B fcDone R (bodyOf B 155) d } := by
  apply Subtype.mk
  case property =>
    change SemSs B _ R (_ :: _) _
    exact (SemSs_cons (SemS_if (SemB_cmp semIs semTru (SemE_attrI (okA2 hB) (fun _ => rfl) (SemE_locS hF .head)) (SemE_none _ _) rfl) (SemSs_one SemS_bot) SemSs_nil) (SemSs_cons (SemS_assign (SemE_attrI (okA1 hB) (fun _ => rfl) (SemE_locS hF .head)) (SemG_locS hF (.tail (.tail .head))) (fun _ _ => rfl) (fun _ => rfl) (fun _ => rfl)) (SemSs_one (SemS_forS hR (fun _ _ => rfl) (SemE_locS hF (.tail .head)) (SemG_locS hF (.tail (.tail (.tail .head)))) (SemSs_cons (SemS_if (SemB_cmp semIs semTru (SemE_named (SemE_mget (fun _ => rfl) rfl rfl (by decide) (SemE_locS hF (.tail (.tail .head))) (SemAs_cons rfl (SemE_locS hF (.tail (.tail (.tail .head)))) SemAs_nil)) (SemG_locS hF (.tail (.tail (.tail (.tail .head)))))) (SemE_none _ _) rfl) (SemSs_one SemS_bot) SemSs_nil) (SemSs_cons (SemS_assign (SemE_attrS (okS1 hB) (fun _ => rfl) (SemE_locS hF (.tail (.tail (.tail (.tail .head)))))) (SemG_locS hF (.tail (.tail (.tail (.tail (.tail .head)))))) (fun _ _ => rfl) (fun _ => rfl) (fun _ => rfl)) (SemSs_cons (SemS_if (SemB_cmp semNe semTru (SemE_locS hF (.tail (.tail (.tail (.tail (.tail .head)))))) (SemE_nOut hB (NameAt.look (.tail (.tail (.tail (.tail (.tail (.tail (.tail (.tail (.tail .head))))))))) hF.nd)) rfl) (SemSs_one SemS_bot) SemSs_nil) (SemSs_cons (SemS_assign (SemE_nDone hB (NameAt.look (.tail (.tail (.tail (.tail (.tail (.tail (.tail (.tail (.tail (.tail .head)))))))))) hF.nd)) (SemG_attrS (okS1 hB) (SemE_locS hF (.tail (.tail (.tail (.tail .head)))))) (fun _ _ => rfl) (fun _ => rfl) (fun _ => rfl)) (SemSs_cons (SemS_forS hR (fun _ _ => rfl) (SemE_attrS (okS2 hB) (fun _ => rfl) (SemE_locS hF (.tail (.tail (.tail (.tail .head)))))) (SemG_locS hF (.tail (.tail (.tail (.tail (.tail (.tail .head))))))) (SemSs_cons (SemS_assign (SemE_Subscript (semItem (fun _ _ => rfl)) (SemE_locS hF (.tail (.tail .head))) (SemE_locS hF (.tail (.tail (.tail (.tail (.tail (.tail .head)))))))) (SemG_locS hF (.tail (.tail (.tail (.tail (.tail (.tail (.tail .head)))))))) (fun _ _ => rfl) (fun _ => rfl) (fun _ => rfl)) (SemSs_cons (SemS_subS (okS1 hB) (SemE_locS hF (.tail (.tail (.tail (.tail (.tail (.tail (.tail .head)))))))) (SemE_int _ _ _)) (SemSs_one (SemS_if (SemB_cmp semEq semTru (SemE_attrS (okS1 hB) (fun _ => rfl) (SemE_locS hF (.tail (.tail (.tail (.tail (.tail (.tail (.tail .head))))))))) (SemE_int _ _ _) rfl) (SemSs_one (SemS_expr (SemE_mappend (fun _ => rfl) rfl rfl (by decide) (SemE_attrI (okA2 hB) (fun _ => rfl) (SemE_locS hF .head)) (SemAs_cons rfl (SemE_locS hF (.tail (.tail (.tail (.tail (.tail (.tail .head))))))) SemAs_nil)) (fun _ => rfl))) SemSs_nil)))) SemSs_nil) (SemSs_one (SemS_augI (okA4 hB) (SemE_locS hF .head) (SemE_int _ _ _)))))))) SemSs_nil))))
noncomputable abbrev fcFC : FC := ⟨[(Str.ofString "self", .loc), (Str.ofString "n2i", .loc), (Str.ofString "stack", .loc), (Str.ofString "itstack", .loc), (Str.ofString "seen", .loc), (Str.ofString "node2stacki", .loc), (Str.ofString "node", .loc)], [(Str.ofString "self", .local), (Str.ofString "n2i", .local), (Str.ofString "stack", .local), (Str.ofString "itstack", .local), (Str.ofString "seen", .local), (Str.ofString "node2stacki", .local), (Str.ofString "node", .local), (Str.ofString "set", .globalImplicit), (Str.ofString "iter", .globalImplicit), (Str.ofString "len", .globalImplicit), (Str.ofString "StopIteration", .globalImplicit)]⟩
noncomputable def dFC (B : Bs) (R : Rm) (hB : Tp B) (hF : FcOk fcFC) (hR : R.he = none) : { d : SD // SemSs B fcFC R (bodyOf B 162) d } := by
  apply Subtype.mk
  case property =>
    change SemSs B _ R (_ :: _) _
    exact (SemSs_cons (SemS_assign (SemE_attrI (okA1 hB) (fun _ => rfl) (SemE_locS hF .head)) (SemG_locS hF (.tail .head)) (fun _ _ => rfl) (fun _ => rfl) (fun _ => rfl)) (SemSs_cons (SemS_assign (SemE_list SemAs_nil) (SemG_locS hF (.tail (.tail .head))) (fun _ _ => rfl) (fun _ => rfl) (fun _ => rfl)) (SemSs_cons (SemS_assign (SemE_list SemAs_nil) (SemG_locS hF (.tail (.tail (.tail .head)))) (fun _ _ => rfl) (fun _ => rfl) (fun _ => rfl)) (SemSs_cons (SemS_assign (SemE_setS hB (NameAt.look (.tail (.tail (.tail (.tail (.tail (.tail (.tail .head))))))) hF.nd) rfl SemAs_nil) (SemG_locS hF (.tail (.tail (.tail (.tail .head))))) (fun _ _ => rfl) (fun _ => rfl) (fun _ => rfl)) (SemSs_cons (SemS_assign SemE_dict0 (SemG_locS hF (.tail (.tail (.tail (.tail (.tail .head)))))) (fun _ _ => rfl) (fun _ => rfl) (fun _ => rfl)) (SemSs_cons (SemS_forS hR (fun _ _ => rfl) (SemE_locS hF (.tail .head)) (SemG_locS hF (.tail (.tail (.tail (.tail (.tail (.tail .head))))))) (SemSs_cons (SemS_if (SemB_cmp semIn semTru (SemE_locS hF (.tail (.tail (.tail (.tail (.tail (.tail .head))))))) (SemE_locS hF (.tail (.tail (.tail (.tail .head))))) rfl) (SemSs_one SemS_cont) SemSs_nil) (SemSs_one (SemS_while (SemB_val semTru (SemE_bool _ _ _) (fun _ => rfl)) (SemSs_cons (SemS_if (SemB_cmp semIn semTru (SemE_locS hF (.tail (.tail (.tail (.tail (.tail (.tail .head))))))) (SemE_locS hF (.tail (.tail (.tail (.tail .head))))) rfl) (SemSs_one (SemS_if (SemB_cmp semIn semTru (SemE_locS hF (.tail (.tail (.tail (.tail (.tail (.tail .head))))))) (SemE_locS hF (.tail (.tail (.tail (.tail (.tail .head)))))) rfl) (SemSs_one (SemS_ret (SemE_BinOp semAdd (SemE_slice (SemE_locS hF (.tail (.tail .head))) (SemP_some (SemE_Subscript (semItem (fun _ _ => rfl)) (SemE_locS hF (.tail (.tail (.tail (.tail (.tail .head)))))) (SemE_locS hF (.tail (.tail (.tail (.tail (.tail (.tail .head))))))))) SemP_none SemP_none (fun _ _ => ⟨_, rfl⟩)) (SemE_list (SemAs_cons rfl (SemE_locS hF (.tail (.tail (.tail (.tail (.tail (.tail .head))))))) SemAs_nil))))) SemSs_nil)) (SemSs_cons (SemS_expr (SemE_madd (fun _ => rfl) rfl rfl (by decide) (SemE_locS hF (.tail (.tail (.tail (.tail .head))))) (SemAs_cons rfl (SemE_locS hF (.tail (.tail (.tail (.tail (.tail (.tail .head))))))) SemAs_nil)) (fun _ => rfl)) (SemSs_cons (SemS_expr (SemE_mappend (fun _ => rfl) rfl rfl (by decide) (SemE_locS hF (.tail (.tail (.tail .head)))) (SemAs_cons rfl (SemE_nxA (fun _ => rfl) (SemE_iterS hB (NameAt.look (.tail (.tail (.tail (.tail (.tail (.tail (.tail (.tail .head)))))))) hF.nd) rfl (SemAs_cons rfl (SemE_attrS (okS2 hB) (fun _ => rfl) (SemE_Subscript (semItem (fun _ _ => rfl)) (SemE_locS hF (.tail .head)) (SemE_locS hF (.tail (.tail (.tail (.tail (.tail (.tail .head))))))))) SemAs_nil))) SemAs_nil)) (fun _ => rfl)) (SemSs_cons (SemS_assign (SemE_lenS hB (NameAt.look (.tail (.tail (.tail (.tail (.tail (.tail (.tail (.tail (.tail .head))))))))) hF.nd) rfl (SemAs_cons rfl (SemE_locS hF (.tail (.tail .head))) SemAs_nil)) (SemG_item semSetItem (SemE_locS hF (.tail (.tail (.tail (.tail (.tail .head)))))) (SemE_locS hF (.tail (.tail (.tail (.tail (.tail (.tail .head)))))))) (fun _ _ => rfl) (fun _ => rfl) (fun _ => rfl)) (SemSs_one (SemS_expr (SemE_mappend (fun _ => rfl) rfl rfl (by decide) (SemE_locS hF (.tail (.tail .head))) (SemAs_cons rfl (SemE_locS hF (.tail (.tail (.tail (.tail (.tail (.tail .head))))))) SemAs_nil)) (fun _ => rfl))))))) (SemSs_one (SemS_while (SemB_val semTru (SemE_locS hF (.tail (.tail .head))) (fun _ => rfl)) (SemSs_one (SemS_tryStop hB hR (NameAt.look (.tail (.tail (.tail (.tail (.tail (.tail (.tail (.tail (.tail (.tail .head)))))))))) hF.nd) (SemSs_cons (SemS_assign (SemE_wrapCall hR (SemE_Subscript (semItem (fun _ _ => rfl)) (SemE_locS hF (.tail (.tail (.tail .head)))) (SemE_unary semNeg (SemE_int _ _ _)))) (SemG_locS hF (.tail (.tail (.tail (.tail (.tail (.tail .head))))))) (fun _ _ => rfl) (fun _ => rfl) (fun _ => rfl)) (SemSs_one SemS_break)) (fun ea y => (SemSs_cons (SemS_del semDel (SemE_locS hF (.tail (.tail (.tail (.tail (.tail .head)))))) (SemE_mpop (fun _ => rfl) rfl rfl (by decide) (SemE_locS hF (.tail (.tail .head))) SemAs_nil)) (SemSs_one (SemS_expr (SemE_mpop (fun _ => rfl) rfl rfl (by decide) (SemE_locS hF (.tail (.tail (.tail .head)))) SemAs_nil) (fun _ => rfl))))))) (SemSs_one SemS_break)))) SemSs_nil))) SemSs_nil) (SemSs_one (SemS_ret (SemE_none _ _)))))))))
end Mine
end
-- G3
namespace Mine
theorem seq_split {a b : SD} {st : AS} {Q : Out → AS → Prop} {X : QX} (P : AS → Prop) (ha : ∀ W : AS → Prop, (∀ st, P st → W st) → a st (fun o st => match o with | .next => W st | o => Q o st) X) (hb : ∀ st, P st → b st Q X) : SSeq a b st Q X := ha (fun st => b st Q X) hb
theorem spec_pl {B : Bs} {fc : FC} {R R' : Rm} {f : Addr} {fd : FuncData} {body : List Stmt} {ps ls : List (Str × SK)} {d : SD} {sp : List AV → OD} (F : FnOk B f fd body) (hfc : fc = ⟨ps ++ ls, fd.scope.names⟩)
    (hlv : R.lv = R'.lv + 1) (hhm : R.he = R'.he) (hb : SemSs B fc R' body d) (hnd : ((ps ++ ls).map (·.1)).Nodup) (hok : slotsOk fd.scope.names (ps ++ ls) = true)
    (hbind : ∀ vs : List Value, vs.length = ps.length → bindArgs fd ⟨vs, []⟩ = pure ((ps.map (·.1)).zip vs))
    (hsp : ∀ avs σ Q X, sp avs σ Q X → avs.length = ps.length ∧ d ⟨avs.map some ++ List.replicate ls.length Option.none, σ⟩ (fun o st => ∃ σ', Sub σ' st.σ ∧ Q (outV o) σ') (fun x st => ∃ σ', Sub σ' st.σ ∧ X x σ')) : SemC B R (.ref f) sp :=
  spec_fn F hfc hlv hhm hb hnd hok fun avs σ Q X h => ⟨avs, .pure fun vs e => hbind vs (e.trans (hsp avs σ Q X h).1), hsp avs σ Q X h⟩
theorem ne_of {σ : Sto} {p q : Addr} {o o' : AObj} (h : σ p = some o) (h' : σ q = some o') (hn : o ≠ o') : p ≠ q := fun e => hn (by rw [e, h'] at h; cases h; rfl)
theorem ne_new {σ : Sto} {p q : Addr} {o : AObj} (h : σ p = some o) (h' : σ q = Option.none) : p ≠ q := fun e => by rw [e, h'] at h; cases h
theorem bind2 {fd : FuncData} {x y : Str} (h : ∀ a b : Value, bindArgs fd ⟨[a, b], []⟩ = pure [(x, a), (y, b)]) : ∀ vs : List Value, vs.length = 2 → bindArgs fd ⟨vs, []⟩ = pure ([x, y].zip vs)
  | [a, b], _ => h a b
theorem bind1 {fd : FuncData} {x : Str} (h : ∀ a : Value, bindArgs fd ⟨[a], []⟩ = pure [(x, a)]) : ∀ vs : List Value, vs.length = 1 → bindArgs fd ⟨vs, []⟩ = pure ([x].zip vs)
  | [a], _ => h a
theorem setS_ok {C dx p : Addr} {i : Nat} {fs : List (Str × AV)} {vs : List (Option AV)} {c : AV} {σ : Sto} {U : Sto → Prop} (h1 : σ p = some (.slots C dx vs)) (h2 : σ dx = some (.attrs fs)) (h : U (upd σ p (.slots C dx (setS vs i c)))) : oSetS C i (.ptr p) c σ U := ⟨p, dx, fs, vs, rfl, h1, h2, h⟩
theorem getS_ok {C dx p : Addr} {i : Nat} {fs : List (Str × AV)} {vs : List (Option AV)} {x : AV} {σ : Sto} {Q : AV → Sto → Prop} {X : AX → Sto → Prop} (h1 : σ p = some (.slots C dx vs)) (h2 : σ dx = some (.attrs fs)) (h3 : vs[i]? = some (some x)) (h4 : isCon x = false) (h : Q x σ) : oGetS C i (.ptr p) σ Q X := ⟨p, dx, fs, vs, x, rfl, h1, h2, h3, h4, h⟩
theorem setI_ok {C dx p : Addr} {n : Str} {fs : List (Str × AV)} {c : AV} {σ : Sto} {U : Sto → Prop} (h1 : σ p = some (.inst C dx)) (h2 : σ dx = some (.attrs fs)) (hl : fs.length < 400) (h : U (upd σ dx (.attrs (putA fs n c)))) : oSetI C n (.ptr p) c σ U := ⟨p, dx, fs, rfl, h1, h2, hl, h⟩
theorem getI_ok {C dx p : Addr} {n : Str} {fs : List (Str × AV)} {x : AV} {σ : Sto} {Q : AV → Sto → Prop} {X : AX → Sto → Prop} (h1 : σ p = some (.inst C dx)) (h2 : σ dx = some (.attrs fs)) (h3 : lookA fs n = some x) (h4 : isCon x = false) (h : Q x σ) : oGetI C n (.ptr p) σ Q X := ⟨p, dx, fs, x, rfl, h1, h2, h3, h4, h⟩
theorem okF {fc : FC} (h : fcB fc = true) : FcOk fc := ⟨h⟩
theorem ct71 (B : Bs) (hB : Tp B) (n : Nat) (e : Option (Addr × AX)) : SemC B ⟨n + 1, e⟩ (.ref 71) spNI := by
  refine spec_pl (R' := ⟨n, e⟩) (ps := [(Str.ofString "self", .loc), (Str.ofString "node", .loc)]) (ls := []) (fk_of hB (by kernel_rfl)) (by kernel_rfl) rfl rfl (dNI B ⟨n, e⟩ hB (okF (by kernel_rfl))).2 (by decide) (by kernel_rfl) (bind2 fun a b => by kernel_rfl) ?_
  rintro _ σ Q X ⟨p, k, dx, rfl, h1, h2, hq⟩
  refine ⟨rfl, ?_⟩
  dsimp only [dNI]
  dsimp only [SSeq, SAsg, SAsg2, Op2, Op1, Var, Con, lget, lset, TSet, TItem, TAttr, TTup, TGo, Tst, e_tru, SIf, SNext, SBrk, SCont, SDo, SRet, BNot, BAll, BAny, e_add, e_iadd, e_sub, e_lt, e_cmp, List.map, List.replicate, List.cons_append, List.nil_append, List.length_cons, List.length_nil, Cal, Evs, Mth, ETup, EList, EDict0, ENamed, EAnd, EOr, SFor, ESlice, EStar, EWrap, STry, SDel, SAugA, EJoin, EJs, SRaise, EArgV]
  have hne : dx ≠ p := ne_of h2 h1 (by nofun)
  refine setS_ok h1 h2 (setS_ok (upd_self _ _ _) ((upd_ne _ _ hne).trans h2) ⟨by decide, fun l hl => ?_⟩)
  rw [upd_upd] at hl ⊢
  have hlp : p ≠ l := fun z => by rw [z, upd_self] at hl; cases hl
  have hld : dx ≠ l := fun z => by rw [z, upd_ne _ _ (fun z' => hne (z.trans z')), ← z, h2] at hl; cases hl
  refine setS_ok ((upd_ne _ _ hlp).trans (upd_self _ _ _)) ((upd_ne _ _ hld).trans ((upd_ne _ _ hne).trans h2)) ⟨_, Sub.refl _, ?_⟩
  have hl0 : σ l = Option.none := by rwa [upd_ne _ _ (Ne.symm hlp)] at hl
  refine hq l _ hl0 (upd_self _ _ _) ((upd_ne _ _ (Ne.symm hlp)).trans (upd_self _ _ _)) fun a h3 h4 => ?_
  rw [upd_ne _ _ h3, upd_ne _ _ h4, upd_ne _ _ h3]
theorem ct75 (B : Bs) (hB : Tp B) (n : Nat) (e : Option (Addr × AX)) : SemC B ⟨n + 2, e⟩ (.ref 75) (oMakeS 75 spNI) :=
  SemC_makeS (R' := ⟨n + 1, e⟩) (fI := 71) (by rw [hB]; kernel_rfl) (by rw [hB]; kernel_rfl) (by rw [hB]; kernel_rfl) rfl rfl (ct71 B hB n e)
end Mine
-- G4
namespace Mine
theorem getK_map (ks : List Int) (f : Int → AV) (k : Int) : getK (ks.map fun k => (k, f k)) k = if k ∈ ks then some (f k) else Option.none := by
  induction ks with
  | nil => rfl
  | cons a l ih =>
    unfold getK at ih ⊢
    rw [List.map_cons, List.find?_cons]
    by_cases q : a = k
    · subst q; simp
    · simp only [q, decide_false, ih, List.mem_cons, Ne.symm q, false_or]
theorem putK_new (es : List (Int × AV)) (k : Int) (v : AV) (h : k ∉ es.map (·.1)) : putK es k v = es ++ [(k, v)] := by
  induction es with
  | nil => rfl
  | cons p l ih =>
    obtain ⟨a, b⟩ := p
    simp only [List.map_cons, List.mem_cons, not_or] at h
    unfold putK
    rw [if_neg (Ne.symm h.1), ih h.2]; rfl
theorem fset_self {β : Type} (f : Int → β) (k : Int) (v : β) : fset f k v k = v := if_pos rfl
theorem fset_ne {β : Type} (f : Int → β) {k x : Int} (v : β) (h : x ≠ k) : fset f k v x = f x := if_neg h
theorem keys_map (ks : List Int) (f : Int → AV) : (ks.map fun k => (k, f k)).map (·.1) = ks := by rw [List.map_map]; exact List.map_id _
theorem addN_mem {S : SS} {k : Int} (h : k ∈ S.ks) : addN S k = S := by unfold addN; rw [if_pos h, if_pos h, if_pos h]
theorem addN_new {S : SS} {k : Int} (h : k ∉ S.ks) : addN S k = { S with ks := S.ks ++ [k], np := fset S.np k 0, su := fset S.su k [] } := by unfold addN; rw [if_neg h, if_neg h, if_neg h]
theorem tsV_x {A : SA} {S : SS} : lookA (tsV A S) (Str.ofString "_node2info") = some (.ptr A.dn) := rfl
theorem Turn.refl {σ : Sto} {A : SA} {S : SS} (h : SAt σ A S) : Turn σ A S σ A S := ⟨h, fun _ _ h1 h2 => ⟨h1, h2⟩, rfl⟩
theorem Turn.trans {σ₁ σ₂ σ₃ : Sto} {A₁ A₂ A₃ : SA} {S₁ S₂ S₃ : SS} (x : Turn σ₁ A₁ S₁ σ₂ A₂ S₂) (y : Turn σ₂ A₂ S₂ σ₃ A₃ S₃) : Turn σ₁ A₁ S₁ σ₃ A₃ S₃ :=
  ⟨y.at_, fun a o h1 h2 => y.keep a o (x.keep a o h1 h2).1 (x.keep a o h1 h2).2, y.ps.trans x.ps⟩
theorem sown_of {A : SA} {S : SS} {k : Int} (h : k ∈ S.ks) : SOwn A S (A.a k) ∧ SOwn A S (A.da k) ∧ SOwn A S (A.l k) := ⟨.inr (.inr (.inr (.inl ⟨k, h, .inl rfl⟩))), .inr (.inr (.inr (.inl ⟨k, h, .inr (.inl rfl)⟩))), .inr (.inr (.inr (.inl ⟨k, h, .inr (.inr rfl)⟩)))⟩
theorem sat_new {σ σ' : Sto} {A : SA} {S : SS} {k : Int} {p dx l : Addr} {ep : Nat} (h : SAt σ A S) (hr : S.rd = none) (hk : k ∉ S.ks) (np : σ p = Option.none) (nd : σ dx = Option.none) (nl : σ l = Option.none)
    (e1 : σ' A.dn = some (.dict ((S.ks.map fun k => (k, .ptr (A.a k))) ++ [(k, .ptr p)]) ep)) (e2 : σ' p = some (.slots 75 dx [some (.int k), some (.int 0), some (.ptr l)])) (e3 : σ' dx = some (.attrs [])) (e4 : σ' l = some (.list []))
    (e5 : ∀ a o, σ a = some o → a ≠ A.dn → σ' a = some o) : SAt σ' { A with ep := ep, a := fset A.a k p, da := fset A.da k dx, l := fset A.l k l } (addN S k) := by
  rw [addN_new hk]
  have ne : ∀ {x}, x ∈ S.ks → x ≠ k := fun hx z => hk (z ▸ hx)
  have old : ∀ {a o}, σ a = some o → (∀ es ep, o ≠ .dict es ep) → σ' a = some o := fun {a o} q hd => e5 a o q (ne_of q h.d (hd _ _))
  refine ⟨old h.i (by nofun), old h.x (by nofun), ?_, fun x hx => ?_, fun x hx => ?_, fun x hx => ?_, fun rs q => ?_, ?_, fun x hx y hy e => ?_, fun x hx q => absurd hr q⟩
  · rw [e1, List.map_append]
    congr 3
    · exact List.map_congr_left fun x hx => by dsimp only; rw [fset_ne _ _ (ne hx)]
    · show [(k, AV.ptr p)] = [(k, .ptr (fset A.a k p k))]
      rw [fset_self]
  · rcases List.mem_append.mp hx with hx | hx
    · have := old (h.n x hx) (by nofun)
      dsimp only [niV] at this ⊢
      rw [fset_ne _ _ (ne hx), fset_ne _ _ (ne hx), fset_ne _ _ (ne hx), fset_ne _ _ (ne hx)]
      exact this
    · cases List.mem_singleton.mp hx
      dsimp only [niV]
      rw [fset_self, fset_self, fset_self, fset_self]; exact e2
  · rcases List.mem_append.mp hx with hx | hx
    · dsimp only; rw [fset_ne _ _ (ne hx)]; exact old (h.nd x hx) (by nofun)
    · cases List.mem_singleton.mp hx
      dsimp only; rw [fset_self]; exact e3
  · rcases List.mem_append.mp hx with hx | hx
    · dsimp only; rw [fset_ne _ _ (ne hx), fset_ne _ _ (ne hx)]; exact old (h.l x hx) (by nofun)
    · cases List.mem_singleton.mp hx
      dsimp only; rw [fset_self, fset_self]; exact e4
  · rw [hr] at q; cases q
  · exact List.nodup_append.mpr ⟨h.nk, by simp, fun a ha b hb => by cases List.mem_singleton.mp hb; exact ne ha⟩
  · dsimp only at e
    rcases List.mem_append.mp hx with hx | hx <;> rcases List.mem_append.mp hy with hy | hy
    · rw [fset_ne _ _ (ne hx), fset_ne _ _ (ne hy)] at e; exact h.nl x hx y hy e
    · cases List.mem_singleton.mp hy
      rw [fset_ne _ _ (ne hx), fset_self] at e
      exact absurd e (ne_new (h.l x hx) nl)
    · cases List.mem_singleton.mp hx
      rw [fset_ne _ _ (ne hy), fset_self] at e
      exact absurd e.symm (ne_new (h.l y hy) nl)
    · cases List.mem_singleton.mp hx; cases List.mem_singleton.mp hy; rfl
theorem ct115 (B : Bs) (hB : Tp B) (n : Nat) (e : Option (Addr × AX)) : SemC B ⟨n + 3, e⟩ (.ref 115) spGet := by
  refine spec_pl (R' := ⟨n + 2, e⟩) (ps := [(Str.ofString "self", .loc), (Str.ofString "node", .loc)]) (ls := [(Str.ofString "result", .loc)]) (fk_of hB (by kernel_rfl)) (by kernel_rfl) rfl rfl (dGet B ⟨n + 2, e⟩ hB (okF (by kernel_rfl)) (ct75 B hB n e)).2 (by decide) (by kernel_rfl) (bind2 fun a b => by kernel_rfl) ?_
  rintro _ σ Q X ⟨A, S, k, rfl, h, hlen, hr, hq⟩
  refine ⟨rfl, ?_⟩
  dsimp only [dGet]
  dsimp only [SSeq, SAsg, SAsg2, Op2, Op1, Var, Con, lget, lset, TSet, TItem, TAttr, TTup, TGo, Tst, e_tru, SIf, SNext, SBrk, SCont, SDo, SRet, BNot, BAll, BAny, e_add, e_iadd, e_sub, e_lt, e_cmp, List.map, List.replicate, List.cons_append, List.nil_append, List.length_cons, List.length_nil, Cal, Evs, Mth, ETup, EList, EDict0, ENamed, EAnd, EOr, SFor, ESlice, EStar, EWrap, STry, SDel, SAugA, EJoin, EJs, SRaise, EArgV]
  refine getI_ok h.i h.x tsV_x rfl ⟨⟨_, _, _, rfl, h.d⟩, ⟨_, _, h.d, ?_⟩⟩
  rw [getK_map S.ks (fun k => .ptr (A.a k)) k]
  by_cases hk : k ∈ S.ks
  · rw [if_pos hk]
    refine ⟨false, rfl, ⟨nofun, fun _ => ⟨σ, Sub.refl _, ?_⟩⟩⟩
    exact hq A σ (by rw [addN_mem hk]; exact Turn.refl h)
  · rw [if_neg hk]
    refine ⟨true, rfl, ⟨fun _ p dx hp hd hpd => ?_, nofun⟩⟩
    refine ⟨p, k, dx, rfl, upd_self _ _ _, (upd_ne _ _ (Ne.symm hpd)).trans (upd_self _ _ _), fun l σ' hl h1 h2 h3 => ⟨rfl, ?_⟩⟩
    have hlp : l ≠ p := fun z => by rw [z, upd_self] at hl; cases hl
    have hld : l ≠ dx := fun z => by rw [z, upd_ne _ _ (Ne.symm hpd), upd_self] at hl; cases hl
    have hl0 : σ l = Option.none := by rwa [upd_ne _ _ hlp, upd_ne _ _ hld] at hl
    have keep : ∀ a o, σ a = some o → σ' a = some o := fun a o q => by
      rw [h3 a (ne_new q hp) (ne_new q hl0), upd_ne _ _ (ne_new q hp), upd_ne _ _ (ne_new q hd)]; exact q
    refine getI_ok (keep _ _ h.i) (keep _ _ h.x) tsV_x rfl (set_dict (keep _ _ h.d) (by rw [List.length_map]; omega) fun ep' => ?_)
    refine ⟨_, Sub.refl _, ?_⟩
    have hdn : ∀ {q}, σ q = Option.none → A.dn ≠ q := fun z => ne_new h.d z
    have := sat_new (σ' := upd σ' A.dn (.dict (putK (S.ks.map fun k => (k, .ptr (A.a k))) k (.ptr p)) ep')) (ep := ep') h hr hk hp hd hl0
      (by rw [upd_self, putK_new _ _ _ (by rw [keys_map S.ks fun k => .ptr (A.a k)]; exact hk)]) ((upd_ne _ _ (Ne.symm (hdn hp))).trans h1)
      ((upd_ne _ _ (Ne.symm (hdn hd))).trans ((h3 dx (Ne.symm hpd) (Ne.symm hld)).trans ((upd_ne _ _ (Ne.symm hpd)).trans (upd_self _ _ _)))) ((upd_ne _ _ (Ne.symm (hdn hl0))).trans h2) (fun a o q qn => (upd_ne _ _ qn).trans (keep a o q))
    have q := hq _ _ ⟨this, fun a o q1 q2 => ⟨(upd_ne _ _ (fun z => q2 (.inr (.inr (.inl z))))).trans (keep a o q1), fun z => ?_⟩, rfl⟩
    · dsimp only at q
      rwa [fset_self] at q
    · rcases z with z | z | z | ⟨x, hx, z⟩ | ⟨z, _⟩
      · exact q2 (.inl z)
      · exact q2 (.inr (.inl z))
      · exact q2 (.inr (.inr (.inl z)))
      · rw [addN_new hk] at hx
        dsimp only at z hx
        by_cases hxk : x = k
        · rw [hxk, fset_self, fset_self, fset_self] at z
          rcases z with z | z | z
          · exact ne_new q1 hp z
          · exact ne_new q1 hd z
          · exact ne_new q1 hl0 z
        · rw [fset_ne _ _ hxk, fset_ne _ _ hxk, fset_ne _ _ hxk] at z
          rcases List.mem_append.mp hx with hx | hx
          · exact q2 (.inr (.inr (.inr (.inl ⟨x, hx, z⟩))))
          · exact hxk (List.mem_singleton.mp hx)
      · rw [addN_new hk] at z; exact z hr
end Mine
-- G5
namespace Mine
theorem turn_same {σ σ' : Sto} {A : SA} {S S' : SS} (h : SAt σ' A S') (ks : S'.ks = S.ks) (rd : S'.rd ≠ none → S.rd ≠ none) (k : ∀ a o, σ a = some o → ¬ SOwn A S a → σ' a = some o) : Turn σ A S σ' A S' :=
  ⟨h, fun a o h1 h2 => ⟨k a o h1 h2, fun z => h2 (by unfold SOwn at z ⊢; rw [ks] at z; exact z.imp_right (Or.imp_right (Or.imp_right (Or.imp_right fun z => ⟨rd z.1, z.2⟩))))⟩, rfl⟩
theorem SAt.ne_a {σ : Sto} {A : SA} {S : SS} (h : SAt σ A S) {x k : Int} (hx : x ∈ S.ks) (hk : k ∈ S.ks) (hn : x ≠ k) : A.a x ≠ A.a k := fun z => by
  have h1 := h.n x hx
  rw [z, h.n k hk] at h1
  injection h1 with h1
  injection h1 with _ _ h1
  injection h1 with h1 _
  injection h1 with h1
  injection h1 with h1
  exact hn h1.symm
theorem turn_np {σ : Sto} {A : SA} {S : SS} {k : Int} (h : SAt σ A S) (hk : k ∈ S.ks) (v : Int) : Turn σ A S (upd σ (A.a k) (.slots 75 (A.da k) [some (.int k), some (.int v), some (.ptr (A.l k))])) A { S with np := fset S.np k v } := by
  have old : ∀ {a o}, σ a = some o → (∀ d vs, o ≠ .slots 75 d vs) → upd σ (A.a k) (.slots 75 (A.da k) [some (.int k), some (.int v), some (.ptr (A.l k))]) a = some o := fun {a o} q hd => (upd_ne _ _ (ne_of q (h.n k hk) (hd _ _))).trans q
  refine turn_same ⟨old h.i (by nofun), old h.x (by nofun), old h.d (by nofun), fun x hx => ?_, fun x hx => old (h.nd x hx) (by nofun), fun x hx => old (h.l x hx) (by nofun), fun rs q => old (h.r rs q) (by nofun), h.nk, h.nl, h.nr⟩ rfl id fun a o h1 h2 => (upd_ne _ _ fun z => h2 (by rw [z]; exact (sown_of hk).1)).trans h1
  by_cases q : x = k
  · subst q; rw [upd_self]; dsimp only [niV]; rw [fset_self]
  · rw [upd_ne _ _ (h.ne_a hx hk q)]; dsimp only [niV]; rw [fset_ne _ _ q]; exact h.n x hx
theorem turn_su {σ : Sto} {A : SA} {S : SS} {k : Int} (h : SAt σ A S) (hk : k ∈ S.ks) (v : List Int) : Turn σ A S (upd σ (A.l k) (.list (iL v))) A { S with su := fset S.su k v } := by
  have old : ∀ {a o}, σ a = some o → (∀ xs, o ≠ .list xs) → upd σ (A.l k) (.list (iL v)) a = some o := fun {a o} q hd => (upd_ne _ _ (ne_of q (h.l k hk) (hd _))).trans q
  refine turn_same ⟨old h.i (by nofun), old h.x (by nofun), old h.d (by nofun), fun x hx => old (h.n x hx) (by nofun), fun x hx => old (h.nd x hx) (by nofun), fun x hx => ?_, fun rs q => ?_, h.nk, h.nl, h.nr⟩ rfl id fun a o h1 h2 => (upd_ne _ _ fun z => h2 (by rw [z]; exact (sown_of hk).2.2)).trans h1
  · by_cases q : x = k
    · subst q; rw [upd_self]; dsimp only; rw [fset_self]
    · rw [upd_ne _ _ fun z => q (h.nl x hx k hk z)]; dsimp only; rw [fset_ne _ _ q]; exact h.l x hx
  · have q : S.rd = some rs := q
    rw [upd_ne _ _ (Ne.symm (h.nr k hk (by rw [q]; nofun)))]; exact h.r rs q
theorem turn_rd {σ : Sto} {A : SA} {S : SS} {rs : List Int} (h : SAt σ A S) (hr : S.rd = some rs) (v : List Int) : Turn σ A S (upd σ A.r (.list (iL v))) A { S with rd := some v } := by
  have hr0 : S.rd ≠ none := by rw [hr]; nofun
  have old : ∀ {a o}, σ a = some o → (∀ xs, o ≠ .list xs) → upd σ A.r (.list (iL v)) a = some o := fun {a o} q hd => (upd_ne _ _ (ne_of q (h.r rs hr) (hd _))).trans q
  refine turn_same ⟨old h.i (by nofun), old (o := .attrs (tsV A { S with rd := some v })) (by have := h.x; unfold tsV at this ⊢; rw [hr] at this; exact this) (by nofun), old h.d (by nofun), fun x hx => old (h.n x hx) (by nofun), fun x hx => old (h.nd x hx) (by nofun), fun x hx => ?_, fun rs' q => ?_, h.nk, h.nl, fun x hx _ => h.nr x hx hr0⟩ rfl (fun _ => hr0) fun a o h1 h2 => (upd_ne _ _ fun z => h2 (.inr (.inr (.inr (.inr ⟨hr0, z⟩))))).trans h1
  · rw [upd_ne _ _ (h.nr x hx hr0)]; exact h.l x hx
  · cases q; exact upd_self _ _ _
theorem turn_ts {σ : Sto} {A : SA} {S : SS} (h : SAt σ A S) (po fi : Int) : Turn σ A S (upd σ A.dx (.attrs (tsV A { S with po := po, fi := fi }))) A { S with po := po, fi := fi } := by
  have old : ∀ {a o}, σ a = some o → o ≠ .attrs (tsV A S) → upd σ A.dx (.attrs (tsV A { S with po := po, fi := fi })) a = some o := fun {a o} q hd => (upd_ne _ _ (ne_of q h.x hd)).trans q
  exact turn_same ⟨old h.i (by nofun), upd_self _ _ _, old h.d (by nofun), fun x hx => old (h.n x hx) (by nofun), fun x hx => old (h.nd x hx) (by unfold tsV; nofun), fun x hx => old (h.l x hx) (by nofun), fun rs q => old (h.r rs q) (by nofun), h.nk, h.nl, h.nr⟩ rfl id fun a o h1 h2 => (upd_ne _ _ fun z => h2 (.inr (.inl z))).trans h1
theorem isInst_of {σ : Sto} {A : SA} {S : SS} {n : Str} (h : SAt σ A S) (hn : lookA (tsV A S) n = none) : isInst 172 n (.ptr A.ps) σ := ⟨_, _, _, rfl, h.i, h.x, hn⟩
theorem isN_rd (A : SA) (o : Option (List Int)) : isN (rdV A o) = some o.isNone := by cases o <;> rfl
theorem iL_append (a b : List Int) : iL a ++ iL b = iL (a ++ b) := List.map_append.symm
theorem iL_len (a : List Int) : (iL a).length = a.length := List.length_map ..
noncomputable def addP (S : SS) (k : Int) (ps : List Int) : SS := { S with su := fun x => S.su x ++ List.replicate (ps.count x) k }
theorem addP_step {S : SS} {k p : Int} {ps : List Int} : { addP S k ps with su := fset (addP S k ps).su p ((addP S k ps).su p ++ [k]) } = addP S k (ps ++ [p]) := by
  have e : fset (addP S k ps).su p ((addP S k ps).su p ++ [k]) = (addP S k (ps ++ [p])).su := by
    funext x
    dsimp only [addP]
    by_cases q : x = p
    · subst q
      rw [fset_self, List.count_append, List.append_assoc]
      congr 1
      simp [← List.replicate_succ']
    · rw [fset_ne _ _ q, List.count_append, List.count_singleton, if_neg (by simpa using Ne.symm q)]; rfl
  rw [e]; rfl
noncomputable def argAt (fd : FuncData) (i : Nat) : Arg := fd.params.args.getD i ⟨Str.empty, none, ⟨0, 0, 0, 0⟩⟩
noncomputable def vaOf (fd : FuncData) : Arg := fd.params.vararg.getD ⟨Str.empty, none, ⟨0, 0, 0, 0⟩⟩
theorem Binds.va2' {B : Bs} {fd : FuncData} {x y z : Str} {a b : AV} {rest : List AV} (h : fd.params = { posonlyargs := [], args := [argAt fd 0, argAt fd 1], vararg := some (vaOf fd), kwonlyargs := [], kw_defaults := [], kwarg := none, defaults := [] }) (hd : fd.defaults = .none) (h1 : (argAt fd 0).arg = x) (h2 : (argAt fd 1).arg = y) (h3 : (vaOf fd).arg = z) (hxy : x ≠ y) (hl : rest.length < 1000) :
    Binds B fd [x, y, z] (a :: b :: rest) [a, b, .tup rest] := by
  subst h1 h2 h3
  exact Binds.va2 h hd hxy hl
theorem Binds.va1' {B : Bs} {fd : FuncData} {x z : Str} {a : AV} {rest : List AV} (h : fd.params = { posonlyargs := [], args := [argAt fd 0], vararg := some (vaOf fd), kwonlyargs := [], kw_defaults := [], kwarg := none, defaults := [] }) (hd : fd.defaults = .none) (h1 : (argAt fd 0).arg = x) (h3 : (vaOf fd).arg = z) (hl : rest.length < 1000) :
    Binds B fd [x, z] (a :: rest) [a, .tup rest] := by
  subst h1 h3
  exact Binds.va1 h hd hl
theorem addN_len (S : SS) (k : Int) : (addN S k).ks.length ≤ S.ks.length + 1 := by unfold addN; dsimp only; split <;> simp
theorem addP_len {S : SS} {k p : Int} {ps done todo : List Int} {np : Int → Int} (hps : ∀ p ∈ ps, p ∈ (addN S k).ks) (hsl : ∀ x ∈ S.ks, (S.su x).length + ps.length < 900) (hd : ps = done ++ p :: todo) (hpl : ps.length < 900) (hp : p ∈ (addN S k).ks) : ((addP { addN S k with np := np } k done).su p).length < 1000 := by
  have hc : done.count p ≤ done.length := List.count_le_length
  have hl : ps.length = done.length + todo.length + 1 := by rw [hd]; simp; omega
  have e : ((addP { addN S k with np := np } k done).su p).length = ((addN S k).su p).length + done.count p := by simp [addP]
  rw [e]
  have hb : ((addN S k).su p).length + ps.length < 900 ∨ (addN S k).su p = [] := by
    by_cases q : k ∈ S.ks
    · rw [addN_mem q] at hp ⊢; exact .inl (hsl p hp)
    · rw [addN_new q] at hp ⊢
      dsimp only at hp ⊢
      by_cases q2 : p = k
      · subst q2; exact .inr (fset_self _ _ _)
      · rw [fset_ne _ _ q2]
        rcases List.mem_append.mp hp with hp | hp
        · exact .inl (hsl p hp)
        · exact absurd (List.mem_singleton.mp hp) q2
  rcases hb with hb | hb
  · omega
  · rw [hb]; simp; omega
theorem ct122 (B : Bs) (hB : Tp B) (n : Nat) : SemC B ⟨n + 4, none⟩ (.ref 122) spAdd := by
  refine spec_fn (R' := ⟨n + 3, none⟩) (ps := [(Str.ofString "self", .loc), (Str.ofString "node", .loc), (Str.ofString "predecessors", .loc)]) (ls := [(Str.ofString "nodeinfo", .loc), (Str.ofString "pred", .loc), (Str.ofString "pred_info", .loc)]) (fk_of hB (by kernel_rfl)) (by kernel_rfl) rfl rfl
    (dAdd B ⟨n + 3, none⟩ hB (okF (by kernel_rfl)) rfl (meth_of hB (by kernel_rfl)) (ct115 B hB n none)).2 (by decide) (by kernel_rfl) ?_
  rintro _ σ Q X ⟨A, S, k, ps, rfl, h, hlen, hpl, hr, hps, hsl, hq⟩
  refine ⟨_, Binds.va2' (by kernel_rfl) (by kernel_rfl) (by kernel_rfl) (by kernel_rfl) (by kernel_rfl) (by decide) (by rw [iL_len]; omega), rfl, ?_⟩
  dsimp only [dAdd]
  dsimp only [SSeq, SAsg, SAsg2, Op2, Op1, Var, Con, lget, lset, TSet, TItem, TAttr, TTup, TGo, Tst, e_tru, SIf, SNext, SBrk, SCont, SDo, SRet, BNot, BAll, BAny, e_add, e_iadd, e_sub, e_lt, e_cmp, List.map, List.replicate, List.cons_append, List.nil_append, List.length_cons, List.length_nil, Cal, Evs, Mth, ETup, EList, EDict0, ENamed, EAnd, EOr, SFor, ESlice, EStar, EWrap, STry, SDel, SAugA, EJoin, EJs, SRaise, EArgV]
  refine getI_ok h.i h.x (x := rdV A S.rd) rfl (by rw [hr]; rfl) ⟨_, isN_rd A S.rd, ?_⟩
  rw [hr]
  refine ⟨nofun, fun _ => ⟨isInst_of h rfl, ⟨A, S, k, rfl, h, by omega, hr, fun A₁ σ₁ t₁ => ?_⟩⟩⟩
  have hk : k ∈ (addN S k).ks := by unfold addN; dsimp only; split; assumption; exact List.mem_append_right _ (.head _)
  have h₁ := t₁.at_
  refine getS_ok (h₁.n k hk) (h₁.nd k hk) rfl rfl ⟨by rw [iL_len]; omega, ?_⟩
  dsimp only [SSeq, SAsg, SAsg2, Op2, Op1, Var, Con, lget, lset, TSet, TItem, TAttr, TTup, TGo, Tst, e_tru, SIf, SNext, SBrk, SCont, SDo, SRet, BNot, BAll, BAny, e_add, e_iadd, e_sub, e_lt, e_cmp, List.map, List.replicate, List.cons_append, List.nil_append, List.length_cons, List.length_nil, Cal, Evs, Mth, ETup, EList, EDict0, ENamed, EAnd, EOr, SFor, ESlice, EStar, EWrap, STry, SDel, SAugA, EJoin, EJs, SRaise, EArgV]
  refine setS_ok (h₁.n k hk) (h₁.nd k hk) ?_
  have t₂ := t₁.trans (turn_np h₁ hk ((addN S k).np k + (iL ps).length))
  rw [iL_len] at t₂
  refine ⟨_, _, .tup _, for_rule (fun rest st => Ex6 fun done todo A' σ' u v => An4 (rest = iL todo) (ps = done ++ todo) (st = ⟨[some (.ptr A.ps), some (.int k), some (.tup (iL ps)), some (.ptr (A₁.a k)), u, v], σ'⟩) (Turn σ A S σ' A' (addP { addN S k with np := fset (addN S k).np k ((addN S k).np k + ps.length) } k done))) _ _ ⟨[], ps, A₁, _, none, none, rfl, rfl, by rw [iL_len], ?_⟩ ?_ ?_⟩
  · have e : addP { addN S k with np := fset (addN S k).np k ((addN S k).np k + ps.length) } k [] = { addN S k with np := fset (addN S k).np k ((addN S k).np k + ps.length) } := by unfold addP; simp
    rw [e]; exact t₂
  · rintro W x xs _ ⟨done, todo, A', σ', u, v, e, hd, rfl, t⟩ hW
    obtain ⟨p, todo, rfl⟩ : ∃ p t, todo = p :: t := by cases todo with | nil => cases e | cons p t => exact ⟨p, t, rfl⟩
    cases e
    refine ⟨trivial, ?_⟩
    dsimp only [SSeq, SAsg, SAsg2, Op2, Op1, Var, Con, lget, lset, TSet, TItem, TAttr, TTup, TGo, Tst, e_tru, SIf, SNext, SBrk, SCont, SDo, SRet, BNot, BAll, BAny, e_add, e_iadd, e_sub, e_lt, e_cmp, List.map, List.replicate, List.cons_append, List.nil_append, List.length_cons, List.length_nil, Cal, Evs, Mth, ETup, EList, EDict0, ENamed, EAnd, EOr, SFor, ESlice, EStar, EWrap, STry, SDel, SAugA, EJoin, EJs, SRaise, EArgV]
    have h' := t.at_
    have hp : p ∈ (addN S k).ks := hps p (by rw [hd]; simp)
    refine ⟨t.ps ▸ isInst_of h' rfl, ⟨A', _, p, by rw [t.ps], h', ?_, ?_, fun A₂ σ₂ t₃ => ?_⟩⟩
    · exact Nat.lt_of_le_of_lt (addN_len S k) (by omega)
    · show (addN S k).rd = none
      exact hr
    · have e2 := addN_mem (S := addP { addN S k with np := fset (addN S k).np k ((addN S k).np k + ps.length) } k done) (k := p) hp
      rw [e2] at t₃
      have h₃ := t₃.at_
      refine getS_ok (h₃.n p hp) (h₃.nd p hp) rfl rfl ⟨⟨_, _, rfl, h₃.l p hp⟩, append_list (h₃.l p hp) ?_ (hW _ ⟨done ++ [p], todo, A₂, _, _, _, rfl, by rw [hd]; simp, rfl, ?_⟩)⟩
      · rw [iL_len]; exact addP_len hps hsl hd hpl hp
      · have := t₃.trans (turn_su h₃ hp (((addP { addN S k with np := fset (addN S k).np k ((addN S k).np k + ps.length) } k done).su p) ++ [k]))
        rw [addP_step, ← iL_append] at this
        exact t.trans this
  · rintro _ ⟨done, todo, A', σ', u, v, e, hd, rfl, t⟩
    cases todo with
    | cons => cases e
    | nil =>
      rw [List.append_nil] at hd
      subst hd
      exact ⟨trivial, _, Sub.refl _, hq A' σ' t⟩
end Mine
-- G6
namespace Mine
theorem putA_new : ∀ {fs : List (Str × AV)} {n : Str} {v : AV}, n ∉ fs.map (·.1) → putA fs n v = fs ++ [(n, v)]
  | [], _, _, _ => rfl
  | (a, b) :: fs, n, v, h => by
    rw [List.map_cons, List.mem_cons, not_or] at h
    rw [putA, if_neg (Ne.symm h.1), putA_new h.2]; rfl
theorem setI_new {C dx p : Addr} {n : Str} {fs : List (Str × AV)} {c : AV} {σ : Sto} {U : Sto → Prop} (h1 : σ p = some (.inst C dx)) (h2 : σ dx = some (.attrs fs)) (hl : fs.length < 400) (hn : n ∉ fs.map (·.1)) (h : U (upd σ dx (.attrs (fs ++ [(n, c)])))) : oSetI C n (.ptr p) c σ U :=
  setI_ok h1 h2 hl (by rw [putA_new hn]; exact h)
inductive SpInit0I (as : List AV) (σ : Sto) (Q : AV → Sto → Prop) : Prop
  | mk : ∀ p dx, (σ p = some (.inst 172 dx)) → (σ dx = some (.attrs [])) → (as = [.ptr p]) → (∀ A' σ', SAt σ' A' emp → (∀ a o, σ a = some o → a ≠ p → a ≠ dx → σ' a = some o ∧ ¬ SOwn A' emp a) → A'.ps = p → Q .none σ') → SpInit0I as σ Q
noncomputable def spInit0 : List AV → OD := fun as σ Q _ => SpInit0I as σ Q
theorem ct108 (B : Bs) (hB : Tp B) (n : Nat) : SemC B ⟨n + 5, none⟩ (.ref 108) spInit0 := by
  refine spec_fn (R' := ⟨n + 4, none⟩) (ps := [(Str.ofString "self", .loc), (Str.ofString "graph", .loc)]) (ls := [(Str.ofString "node", .loc), (Str.ofString "predecessors", .loc)]) (fk_of hB (by kernel_rfl)) (by kernel_rfl) rfl rfl
    (dInit B ⟨n + 4, none⟩ hB (okF (by kernel_rfl)) rfl).2 (by decide) (by kernel_rfl) ?_
  rintro _ σ Q X ⟨p, dx, hp, hx, rfl, hq⟩
  have bind : Binds B (fdAt (KK B.w.params) 108) [Str.ofString "self", Str.ofString "graph"] [.ptr p] [.ptr p, .none] :=
    Binds.dflt (fun vs => vs ++ [.none]) (fun vs hv h X gs d t os => by
      obtain ⟨a, rfl⟩ : ∃ a, vs = [a] := by match vs, hv with | [a], _ => exact ⟨a, rfl⟩
      exact kp_binds (K := KK B.w.params) (hB ▸ X) fun S => by kernel_rfl) fun _ _ vs h => by
        obtain ⟨v, _, rfl, h1, rfl⟩ := h
        exact ⟨v, _, rfl, h1, _, _, rfl, rfl, rfl⟩
  have hpd : p ≠ dx := ne_of hp hx (by nofun)
  -- the four stores
  have start : ∀ (g : AV) (K : Sto → Prop), (∀ dn σ', σ dn = Option.none → SAt σ' ⟨p, dx, dn, 0, fun _ => 0, fun _ => 0, fun _ => 0, 0⟩ emp → (∀ a o, σ a = some o → a ≠ p → a ≠ dx → σ' a = some o ∧ a ≠ dn) → K σ') →
      ∀ a, σ a = Option.none → oSetI 172 (Str.ofString "_node2info") (.ptr p) (.ptr a) (upd σ a (.dict [] 0)) fun σ => oSetI 172 (Str.ofString "_ready_nodes") (.ptr p) .none σ fun σ => oSetI 172 (Str.ofString "_npassedout") (.ptr p) (.int 0) σ fun σ => oSetI 172 (Str.ofString "_nfinished") (.ptr p) (.int 0) σ fun σ => K σ := by
    intro g K hK a ha
    have h1 : p ≠ a := ne_new hp ha
    have h2 : dx ≠ a := ne_new hx ha
    refine setI_new ((upd_ne _ _ h1).trans hp) ((upd_ne _ _ h2).trans hx) (by decide) (by decide) ?_
    refine setI_new ((upd_ne _ _ hpd).trans ((upd_ne _ _ h1).trans hp)) (upd_self _ _ _) (by show 1 < 400; decide) (by show _ ∉ [Str.ofString "_node2info"]; decide) ?_
    rw [upd_upd]
    refine setI_new ((upd_ne _ _ hpd).trans ((upd_ne _ _ h1).trans hp)) (upd_self _ _ _) (by show 2 < 400; decide) (by show _ ∉ [Str.ofString "_node2info", Str.ofString "_ready_nodes"]; decide) ?_
    rw [upd_upd]
    refine setI_new ((upd_ne _ _ hpd).trans ((upd_ne _ _ h1).trans hp)) (upd_self _ _ _) (by show 3 < 400; decide) (by show _ ∉ [Str.ofString "_node2info", Str.ofString "_ready_nodes", Str.ofString "_npassedout"]; decide) ?_
    rw [upd_upd]
    exact hK a _ ha ⟨(upd_ne _ _ hpd).trans ((upd_ne _ _ h1).trans hp), upd_self _ _ _, (upd_ne _ _ (Ne.symm h2)).trans (upd_self _ _ _), nofun, nofun, nofun, nofun, List.nodup_nil, nofun, nofun⟩ fun b o hb e1 e2 => ⟨(upd_ne _ _ e2).trans ((upd_ne _ _ (ne_new hb ha)).trans hb), ne_new hb ha⟩
  · refine ⟨_, bind, rfl, ?_⟩
    dsimp only [dInit]
    dsimp only [SSeq, SAsg, SAsg2, Op2, Op1, Var, Con, lget, lset, TSet, TItem, TAttr, TTup, TGo, Tst, e_tru, SIf, SNext, SBrk, SCont, SDo, SRet, BNot, BAll, BAny, e_add, e_iadd, e_sub, e_lt, e_cmp, List.map, List.replicate, List.cons_append, List.nil_append, List.length_cons, List.length_nil, Cal, Evs, Mth, ETup, EList, EDict0, ENamed, EAnd, EOr, SFor, ESlice, EStar, EWrap, STry, SDel, SAugA, EJoin, EJs, SRaise, EArgV]
    refine start .none _ fun dn σ' hdn h₀ keep => ⟨true, rfl, nofun, fun _ => ⟨σ', Sub.refl _, hq _ σ' h₀ (fun a o h1 h2 h3 => ⟨(keep a o h1 h2 h3).1, fun z => ?_⟩) rfl⟩⟩
    rcases z with z | z | z | ⟨x, hx, _⟩ | ⟨z, _⟩
    · exact h2 z
    · exact h3 z
    · exact (keep a o h1 h2 h3).2 z
    · cases hx
    · exact z rfl
end Mine
-- G7
namespace Mine
theorem ct141 (B : Bs) (hB : Tp B) (n : Nat) : SemC B ⟨n + 1, none⟩ (.ref 141) spAct := by
  refine spec_pl (R' := ⟨n, none⟩) (ps := [(Str.ofString "self", .loc)]) (ls := []) (fk_of hB (by kernel_rfl)) (by kernel_rfl) rfl rfl (dAct B ⟨n, none⟩ hB (okF (by kernel_rfl)) rfl).2 (by decide) (by kernel_rfl) (bind1 fun a => by kernel_rfl) ?_
  rintro _ σ Q X ⟨A, S, rs, rfl, h, hr, hl, hq⟩
  refine ⟨rfl, ?_⟩
  dsimp only [dAct]
  dsimp only [SSeq, SAsg, SAsg2, Op2, Op1, Var, Con, lget, lset, TSet, TItem, TAttr, TTup, TGo, Tst, e_tru, SIf, SNext, SBrk, SCont, SDo, SRet, BNot, BAll, BAny, e_add, e_iadd, e_sub, e_lt, e_cmp, List.map, List.replicate, List.cons_append, List.nil_append, List.length_cons, List.length_nil, Cal, Evs, Mth, ETup, EList, EDict0, ENamed, EAnd, EOr, SFor, ESlice, EStar, EWrap, STry, SDel, SAugA, EJoin, EJs, SRaise, EArgV]
  refine getI_ok h.i h.x (x := rdV A S.rd) rfl (by rw [hr]; rfl) ⟨_, isN_rd A S.rd, ?_⟩
  rw [hr]
  refine ⟨nofun, fun _ => ?_⟩
  refine getI_ok h.i h.x (x := .int S.fi) rfl rfl (getI_ok h.i h.x (x := .int S.po) rfl rfl ?_)
  dsimp only [SSeq, SAsg, SAsg2, Op2, Op1, Var, Con, lget, lset, TSet, TItem, TAttr, TTup, TGo, Tst, e_tru, SIf, SNext, SBrk, SCont, SDo, SRet, BNot, BAll, BAny, e_add, e_iadd, e_sub, e_lt, e_cmp, List.map, List.replicate, List.cons_append, List.nil_append, List.length_cons, List.length_nil, Cal, Evs, Mth, ETup, EList, EDict0, ENamed, EAnd, EOr, SFor, ESlice, EStar, EWrap, STry, SDel, SAugA, EJoin, EJs, SRaise, EArgV]
  cases e : decide (S.fi < S.po) with
  | true => rw [e] at hq; exact ⟨σ, Sub.refl _, hq⟩
  | false =>
    rw [e] at hq
    refine getI_ok h.i h.x (x := .ptr A.r) (by unfold tsV; rw [hr]; rfl) rfl ⟨_, _, rfl, h.r rs hr, by rw [iL_len]; omega, σ, Sub.refl _, ?_⟩
    cases rs <;> exact hq
theorem ct134 (B : Bs) (hB : Tp B) (n : Nat) : SemC B ⟨n + 1, none⟩ (.ref 134) spRdy := by
  refine spec_pl (R' := ⟨n, none⟩) (ps := [(Str.ofString "self", .loc)]) (ls := [(Str.ofString "result", .loc), (Str.ofString "n2i", .loc), (Str.ofString "node", .loc)]) (fk_of hB (by kernel_rfl)) (by kernel_rfl) rfl rfl (dRdy B ⟨n, none⟩ hB (okF (by kernel_rfl)) rfl).2 (by decide) (by kernel_rfl) (bind1 fun a => by kernel_rfl) ?_
  rintro _ σ Q X ⟨A, S, rs, rfl, h, hr, hl, hks, hq⟩
  refine ⟨rfl, ?_⟩
  dsimp only [dRdy]
  dsimp only [SSeq, SAsg, SAsg2, Op2, Op1, Var, Con, lget, lset, TSet, TItem, TAttr, TTup, TGo, Tst, e_tru, SIf, SNext, SBrk, SCont, SDo, SRet, BNot, BAll, BAny, e_add, e_iadd, e_sub, e_lt, e_cmp, List.map, List.replicate, List.cons_append, List.nil_append, List.length_cons, List.length_nil, Cal, Evs, Mth, ETup, EList, EDict0, ENamed, EAnd, EOr, SFor, ESlice, EStar, EWrap, STry, SDel, SAugA, EJoin, EJs, SRaise, EArgV]
  refine getI_ok h.i h.x (x := rdV A S.rd) rfl (by rw [hr]; rfl) ⟨_, isN_rd A S.rd, ?_⟩
  rw [hr]
  refine ⟨nofun, fun _ => ?_⟩
  refine getI_ok h.i h.x (x := .ptr A.r) (by unfold tsV; rw [hr]; rfl) rfl ⟨_, ⟨h.r rs hr, by rw [iL_len]; omega⟩, ?_⟩
  refine getI_ok h.i h.x (x := .ptr A.dn) rfl rfl ⟨_, _, .tup _, ?_⟩
  refine for_rule (fun rest st => Ex4 fun done todo σ' u => An4 (rest = iL todo) (rs = done ++ todo) (st = ⟨[some (.ptr A.ps), some (.tup (iL rs)), some (.ptr A.dn), u], σ'⟩) (Turn σ A S σ' A { S with np := fun x => if x ∈ done then -1 else S.np x })) _ _ ⟨[], rs, σ, none, rfl, rfl, rfl, Turn.refl h⟩ ?_ ?_
  · rintro W x xs _ ⟨done, todo, σ', u, e, hd, rfl, t⟩ hW
    obtain ⟨p, todo, rfl⟩ : ∃ p t, todo = p :: t := by cases todo with | nil => cases e | cons p t => exact ⟨p, t, rfl⟩
    cases e
    refine ⟨trivial, ?_⟩
    dsimp only [SSeq, SAsg, SAsg2, Op2, Op1, Var, Con, lget, lset, TSet, TItem, TAttr, TTup, TGo, Tst, e_tru, SIf, SNext, SBrk, SCont, SDo, SRet, BNot, BAll, BAny, e_add, e_iadd, e_sub, e_lt, e_cmp, List.map, List.replicate, List.cons_append, List.nil_append, List.length_cons, List.length_nil, Cal, Evs, Mth, ETup, EList, EDict0, ENamed, EAnd, EOr, SFor, ESlice, EStar, EWrap, STry, SDel, SAugA, EJoin, EJs, SRaise, EArgV]
    have h' := t.at_
    have hp : p ∈ S.ks := hks p (by rw [hd]; simp)
    refine item_dict h'.d (x := .ptr (A.a p)) (by rw [getK_map, if_pos hp]) (setS_ok (h'.n p hp) (h'.nd p hp) (hW _ ⟨done ++ [p], todo, _, _, rfl, by rw [hd]; simp, rfl, ?_⟩))
    have t₂ := t.trans (turn_np h' hp (-1))
    have e : fset (fun x => if x ∈ done then -1 else S.np x) p (-1) = fun x => if x ∈ done ++ [p] then -1 else S.np x := by
      funext x; unfold fset; by_cases q : x = p <;> simp [q]
    dsimp only at t₂
    rw [e] at t₂
    exact t₂
  · rintro _ ⟨done, todo, σ', u, e, hd, rfl, t⟩
    cases todo with
    | cons => cases e
    | nil =>
      rw [List.append_nil] at hd
      subst hd
      refine ⟨trivial, ?_⟩
      dsimp only [SSeq, SAsg, SAsg2, Op2, Op1, Var, Con, lget, lset, TSet, TItem, TAttr, TTup, TGo, Tst, e_tru, SIf, SNext, SBrk, SCont, SDo, SRet, BNot, BAll, BAny, e_add, e_iadd, e_sub, e_lt, e_cmp, List.map, List.replicate, List.cons_append, List.nil_append, List.length_cons, List.length_nil, Cal, Evs, Mth, ETup, EList, EDict0, ENamed, EAnd, EOr, SFor, ESlice, EStar, EWrap, STry, SDel, SAugA, EJoin, EJs, SRaise, EArgV]
      have h' := t.at_
      refine getI_ok h'.i h'.x (x := .ptr A.r) (by unfold tsV; dsimp only; rw [hr]; rfl) rfl ⟨⟨_, _, rfl, h'.r rs hr⟩, ⟨_, ⟨h'.r rs hr, by rw [iL_len]; omega⟩, ?_⟩⟩
      have t₂ := t.trans (turn_rd h' hr [])
      have h₂ := t₂.at_
      refine getI_ok h₂.i h₂.x (x := .int S.po) rfl rfl ⟨by rw [iL_len]; omega, ?_⟩
      dsimp only [SSeq, SAsg, SAsg2, Op2, Op1, Var, Con, lget, lset, TSet, TItem, TAttr, TTup, TGo, Tst, e_tru, SIf, SNext, SBrk, SCont, SDo, SRet, BNot, BAll, BAny, e_add, e_iadd, e_sub, e_lt, e_cmp, List.map, List.replicate, List.cons_append, List.nil_append, List.length_cons, List.length_nil, Cal, Evs, Mth, ETup, EList, EDict0, ENamed, EAnd, EOr, SFor, ESlice, EStar, EWrap, STry, SDel, SAugA, EJoin, EJs, SRaise, EArgV]
      refine setI_ok h₂.i h₂.x (by show 4 < 400; decide) ⟨_, Sub.refl _, hq A _ ?_⟩
      have t₃ := t₂.trans (turn_ts h₂ (S.po + (iL rs).length) S.fi)
      rw [iL_len] at t₃
      rw [iL_len]
      exact t₃
theorem eq_int {a b : Int} {σ : Sto} {Q : AV → Sto → Prop} {X : AX → Sto → Prop} (h : Q (.bool (a == b)) σ) : oEq (.int a) (.int b) σ Q X := ⟨_, _, ⟨rfl, rfl, by simp [PyData.depth]⟩, h⟩
theorem ne_int {a b : Int} {σ : Sto} {Q : AV → Sto → Prop} {X : AX → Sto → Prop} (h : Q (.bool (!(a == b))) σ) : oNe (.int a) (.int b) σ Q X := ⟨_, _, ⟨rfl, rfl, by simp [PyData.depth]⟩, h⟩
theorem tell_su (l : List Int) : ∀ S : SS, (l.foldl tellS S).su = S.su := by
  induction l with
  | nil => exact fun _ => rfl
  | cons a l ih => exact fun S => ih (tellS S a)
theorem tell_ks (l : List Int) : ∀ S : SS, (l.foldl tellS S).ks = S.ks := by
  induction l with
  | nil => exact fun _ => rfl
  | cons a l ih => exact fun S => ih (tellS S a)
inductive SpDone2I (as : List AV) (σ : Sto) (Q : AV → Sto → Prop) (X : AX → Sto → Prop) : Prop
  | mk : ∀ A S k rs, (as = [.ptr A.ps, .int k]) → (SAt σ A S) → (S.rd = some rs) → (k ∈ S.ks) → (rs.length + (S.su k).length < 900) → ((∀ s ∈ S.su k, s ∈ S.ks)) → ((k ∉ S.su k)) → (S.np k = -1) → (∀ A' σ', Turn σ A S σ' A' (doneS S k) → Q .none σ') → SpDone2I as σ Q X
noncomputable def spDone2 : List AV → OD := fun as σ Q X => SpDone2I as σ Q X
theorem ct155 (B : Bs) (hB : Tp B) (n : Nat) : SemC B ⟨n + 1, none⟩ (.ref 155) spDone2 := by
  refine spec_fn (R' := ⟨n, none⟩) (ps := [(Str.ofString "self", .loc), (Str.ofString "nodes", .loc)]) (ls := [(Str.ofString "n2i", .loc), (Str.ofString "node", .loc), (Str.ofString "nodeinfo", .loc), (Str.ofString "stat", .loc), (Str.ofString "successor", .loc), (Str.ofString "successor_info", .loc)]) (fk_of hB (by kernel_rfl)) (by kernel_rfl) rfl rfl (dDone B ⟨n, none⟩ hB (okF (by kernel_rfl)) rfl).2 (by decide) (by kernel_rfl) ?_
  rintro _ σ Q X ⟨A, S, k, rs, rfl, h, hr, hk, hl, hsk, hkk, hn, hq⟩
  refine ⟨_, Binds.va1' (by kernel_rfl) (by kernel_rfl) (by kernel_rfl) (by kernel_rfl) (by show 1 < 1000; decide), rfl, ?_⟩
  dsimp only [dDone]
  dsimp only [SSeq, SAsg, SAsg2, Op2, Op1, Var, Con, lget, lset, TSet, TItem, TAttr, TTup, TGo, Tst, e_tru, SIf, SNext, SBrk, SCont, SDo, SRet, BNot, BAll, BAny, e_add, e_iadd, e_sub, e_lt, e_cmp, List.map, List.replicate, List.cons_append, List.nil_append, List.length_cons, List.length_nil, Cal, Evs, Mth, ETup, EList, EDict0, ENamed, EAnd, EOr, SFor, ESlice, EStar, EWrap, STry, SDel, SAugA, EJoin, EJs, SRaise, EArgV]
  refine getI_ok h.i h.x (x := rdV A S.rd) rfl (by rw [hr]; rfl) ⟨_, isN_rd A S.rd, ?_⟩
  rw [hr]
  refine ⟨nofun, fun _ => ?_⟩
  refine getI_ok h.i h.x (x := .ptr A.dn) rfl rfl ⟨_, _, .tup _, ?_⟩
  refine ⟨trivial, ?_⟩
  dsimp only [SSeq, SAsg, SAsg2, Op2, Op1, Var, Con, lget, lset, TSet, TItem, TAttr, TTup, TGo, Tst, e_tru, SIf, SNext, SBrk, SCont, SDo, SRet, BNot, BAll, BAny, e_add, e_iadd, e_sub, e_lt, e_cmp, List.map, List.replicate, List.cons_append, List.nil_append, List.length_cons, List.length_nil, Cal, Evs, Mth, ETup, EList, EDict0, ENamed, EAnd, EOr, SFor, ESlice, EStar, EWrap, STry, SDel, SAugA, EJoin, EJs, SRaise, EArgV]
  refine ⟨⟨_, _, _, rfl, h.d⟩, ⟨_, _, h.d, ?_⟩⟩
  rw [getK_map S.ks (fun k => .ptr (A.a k)) k, if_pos hk]
  refine ⟨false, rfl, nofun, fun _ => ?_⟩
  refine getS_ok (h.n k hk) (h.nd k hk) (x := .int (S.np k)) rfl rfl (ne_int ?_)
  dsimp only [SSeq, SAsg, SAsg2, Op2, Op1, Var, Con, lget, lset, TSet, TItem, TAttr, TTup, TGo, Tst, e_tru, SIf, SNext, SBrk, SCont, SDo, SRet, BNot, BAll, BAny, e_add, e_iadd, e_sub, e_lt, e_cmp, List.map, List.replicate, List.cons_append, List.nil_append, List.length_cons, List.length_nil, Cal, Evs, Mth, ETup, EList, EDict0, ENamed, EAnd, EOr, SFor, ESlice, EStar, EWrap, STry, SDel, SAugA, EJoin, EJs, SRaise, EArgV]
  · rw [hn]
    refine ⟨nofun, fun _ => setS_ok (h.n k hk) (h.nd k hk) ?_⟩
    have t := turn_np h hk (-2)
    have h' := t.at_
    refine getS_ok (h'.n k hk) (h'.nd k hk) (x := .ptr (A.l k)) rfl rfl ⟨_, _, .list _ _ (h'.l k hk), ?_⟩
    refine for_rule (fun rest st => Ex6 fun done todo rs' σ' u v => An6 (rest = iL todo) (S.su k = done ++ todo) (rs'.length ≤ rs.length + done.length) ((done.foldl tellS { S with np := fset S.np k (-2) }).rd = some rs') (st = ⟨[some (.ptr A.ps), some (.tup [.int k]), some (.ptr A.dn), some (.int k), some (.ptr (A.a k)), some (.int (-1)), u, v], σ'⟩) (Turn σ A S σ' A (done.foldl tellS { S with np := fset S.np k (-2) }))) _ _ ⟨[], S.su k, rs, _, none, none, rfl, rfl, Nat.le_refl _, hr, rfl, t⟩ ?_ ?_
    · rintro W x xs _ ⟨done, todo, rs', σ', u, v, e, hd, hl', hr', rfl, t⟩ hW
      obtain ⟨s, todo, rfl⟩ : ∃ p t, todo = p :: t := by cases todo with | nil => cases e | cons p t => exact ⟨p, t, rfl⟩
      cases e
      have h' := t.at_
      have hs : s ∈ S.su k := by rw [hd]; simp
      have hsK : s ∈ S.ks := hsk s hs
      have hsu : (done.foldl tellS { S with np := fset S.np k (-2) }).su k = S.su k := by rw [tell_su]
      have hks' : (done.foldl tellS { S with np := fset S.np k (-2) }).ks = S.ks := by rw [tell_ks]
      generalize hS : done.foldl tellS { S with np := fset S.np k (-2) } = S' at *
      have hs' : s ∈ S'.ks := hks' ▸ hsK
      have hk' : k ∈ S'.ks := hks' ▸ hk
      refine ⟨by have := h'.l k hk'; rw [hsu] at this; exact this, ?_⟩
      dsimp only [SSeq, SAsg, SAsg2, Op2, Op1, Var, Con, lget, lset, TSet, TItem, TAttr, TTup, TGo, Tst, e_tru, SIf, SNext, SBrk, SCont, SDo, SRet, BNot, BAll, BAny, e_add, e_iadd, e_sub, e_lt, e_cmp, List.map, List.replicate, List.cons_append, List.nil_append, List.length_cons, List.length_nil, Cal, Evs, Mth, ETup, EList, EDict0, ENamed, EAnd, EOr, SFor, ESlice, EStar, EWrap, STry, SDel, SAugA, EJoin, EJs, SRaise, EArgV]
      refine item_dict h'.d (x := .ptr (A.a s)) (by rw [getK_map, if_pos hs']) ?_
      refine getS_ok (h'.n s hs') (h'.nd s hs') (x := .int (S'.np s)) rfl rfl ?_
      dsimp only [SSeq, SAsg, SAsg2, Op2, Op1, Var, Con, lget, lset, TSet, TItem, TAttr, TTup, TGo, Tst, e_tru, SIf, SNext, SBrk, SCont, SDo, SRet, BNot, BAll, BAny, e_add, e_iadd, e_sub, e_lt, e_cmp, List.map, List.replicate, List.cons_append, List.nil_append, List.length_cons, List.length_nil, Cal, Evs, Mth, ETup, EList, EDict0, ENamed, EAnd, EOr, SFor, ESlice, EStar, EWrap, STry, SDel, SAugA, EJoin, EJs, SRaise, EArgV]
      refine setS_ok (h'.n s hs') (h'.nd s hs') ?_
      have t₂ := t.trans (turn_np h' hs' (S'.np s - 1))
      have h₂ := t₂.at_
      refine getS_ok (h₂.n s hs') (h₂.nd s hs') (x := .int (S'.np s - 1)) ?_ rfl (eq_int ?_)
      · dsimp only [niV]; rw [fset_self]; rfl
      dsimp only [SSeq, SAsg, SAsg2, Op2, Op1, Var, Con, lget, lset, TSet, TItem, TAttr, TTup, TGo, Tst, e_tru, SIf, SNext, SBrk, SCont, SDo, SRet, BNot, BAll, BAny, e_add, e_iadd, e_sub, e_lt, e_cmp, List.map, List.replicate, List.cons_append, List.nil_append, List.length_cons, List.length_nil, Cal, Evs, Mth, ETup, EList, EDict0, ENamed, EAnd, EOr, SFor, ESlice, EStar, EWrap, STry, SDel, SAugA, EJoin, EJs, SRaise, EArgV]
      have hll : done.length + 1 + todo.length = (S.su k).length := by rw [hd]; simp; omega
      refine ⟨fun z => ?_, fun z => hW _ ⟨done ++ [s], todo, rs', _, _, _, rfl, by rw [hd]; simp, by simp; omega, ?_, rfl, ?_⟩⟩
      · have z : S'.np s - 1 = 0 := by simpa using z
        refine getI_ok h₂.i h₂.x (x := .ptr A.r) (by unfold tsV; dsimp only; rw [hr']; rfl) rfl ⟨⟨_, _, rfl, h₂.r rs' hr'⟩, append_list (h₂.r rs' hr') (by rw [iL_len]; omega) (hW _ ⟨done ++ [s], todo, rs' ++ [s], _, _, _, rfl, by rw [hd]; simp, by simp; omega, ?_, rfl, ?_⟩)⟩
        · rw [List.foldl_append, hS]; show (tellS S' s).rd = _; unfold tellS; dsimp only; rw [if_pos z, hr']; rfl
        · have t₃ := t₂.trans (turn_rd h₂ hr' (rs' ++ [s]))
          rw [List.foldl_append, hS]; show Turn _ _ _ _ _ (tellS S' s); unfold tellS; rw [if_pos z, hr']
          rw [← iL_append] at t₃; exact t₃
      · have z : ¬ (S'.np s - 1 = 0) := by simpa using z
        rw [List.foldl_append, hS]; show (tellS S' s).rd = _; unfold tellS; dsimp only; rw [if_neg z, hr']
      · have z : ¬ (S'.np s - 1 = 0) := by simpa using z
        rw [List.foldl_append, hS]; show Turn _ _ _ _ _ (tellS S' s); unfold tellS; rw [if_neg z]; exact t₂
    · rintro _ ⟨done, todo, rs', σ', u, v, e, hd, hl', hr', rfl, t⟩
      cases todo with
      | cons => cases e
      | nil =>
        rw [List.append_nil] at hd
        subst hd
        have h' := t.at_
        have hsu : ((S.su k).foldl tellS { S with np := fset S.np k (-2) }).su k = S.su k := by rw [tell_su]
        have hks' : ((S.su k).foldl tellS { S with np := fset S.np k (-2) }).ks = S.ks := by rw [tell_ks]
        have hdn : ∀ S', (S.su k).foldl tellS { S with np := fset S.np k (-2) } = S' → doneS S k = { S' with fi := S'.fi + 1 } := fun S' e => by unfold doneS; rw [e]
        generalize hS : (S.su k).foldl tellS { S with np := fset S.np k (-2) } = S' at *
        have hk' : k ∈ S'.ks := hks' ▸ hk
        refine ⟨by have := h'.l k hk'; rw [hsu] at this; exact this, ?_⟩
        dsimp only [SSeq, SAsg, SAsg2, Op2, Op1, Var, Con, lget, lset, TSet, TItem, TAttr, TTup, TGo, Tst, e_tru, SIf, SNext, SBrk, SCont, SDo, SRet, BNot, BAll, BAny, e_add, e_iadd, e_sub, e_lt, e_cmp, List.map, List.replicate, List.cons_append, List.nil_append, List.length_cons, List.length_nil, Cal, Evs, Mth, ETup, EList, EDict0, ENamed, EAnd, EOr, SFor, ESlice, EStar, EWrap, STry, SDel, SAugA, EJoin, EJs, SRaise, EArgV]
        refine getI_ok h'.i h'.x (x := .int S'.fi) rfl rfl ?_
        dsimp only [SSeq, SAsg, SAsg2, Op2, Op1, Var, Con, lget, lset, TSet, TItem, TAttr, TTup, TGo, Tst, e_tru, SIf, SNext, SBrk, SCont, SDo, SRet, BNot, BAll, BAny, e_add, e_iadd, e_sub, e_lt, e_cmp, List.map, List.replicate, List.cons_append, List.nil_append, List.length_cons, List.length_nil, Cal, Evs, Mth, ETup, EList, EDict0, ENamed, EAnd, EOr, SFor, ESlice, EStar, EWrap, STry, SDel, SAugA, EJoin, EJs, SRaise, EArgV]
        refine setI_ok h'.i h'.x (by show 4 < 400; decide) ⟨trivial, ?_⟩
        refine ⟨_, Sub.refl _, hq A _ ?_⟩
        rw [hdn S' rfl]
        exact t.trans (turn_ts h' S'.po (S'.fi + 1))
end Mine
-- G8
namespace Mine
theorem comp_pure {β : Type} {g : AV → AS → (AS → Prop) → QX → Prop} {t : BD} {e : ED} {chk : Sto → Prop} {fin : List AV → Sto → Prop} {h : β → AV} (f : β → Option AV) (P : List (Option AV) → Prop) {σ : Sto} (hc : chk σ) :
    ∀ (ys : List β) (acc : List AV) (m : List (Option AV)), P m → (∀ x ∈ ys, ∀ m, P m → ∀ (W₁ : AV → List (Option AV) → Sto → Prop) (W₀ : List (Option AV) → Sto → Prop), (∀ m', P m' → (∀ y, f x = some y → W₁ y m' σ) ∧ (f x = none → W₀ m' σ)) →
      g (h x) ⟨m, σ⟩ (fun st => t st (fun b st => (b = true → e st (fun y st => W₁ y st.m st.σ) (fun _ _ => False)) ∧ (b = false → W₀ st.m st.σ)) (fun _ _ => False)) (fun _ _ => False)) →
    fin (acc ++ ys.filterMap f) σ → CompN g t e chk fin (ys.map h) acc m σ
  | [], acc, m, hm, _, hf => ⟨hc, by simpa using hf⟩
  | y :: ys, acc, m, hm, step, hf => ⟨hc, step y (.head _) m hm _ _ fun m' hm' => ⟨fun z hz => comp_pure f P hc ys _ m' hm' (fun x hx => step x (.tail _ hx)) (by rw [List.filterMap_cons, hz] at hf; simpa using hf), fun hz => comp_pure f P hc ys _ m' hm' (fun x hx => step x (.tail _ hx)) (by rw [List.filterMap_cons, hz] at hf; exact hf)⟩⟩
theorem fm_iL (p : Int → Bool) (l : List Int) : l.filterMap (fun k => if p k then some (.int k) else none) = iL (l.filter p) := by
  induction l with
  | nil => rfl
  | cons a l ih => rw [List.filterMap_cons, List.filter_cons]; cases p a <;> simp [ih, iL]
theorem SAt.keeps {σ σ' : Sto} {A : SA} {S : SS} (h : SAt σ A S) (k : Keeps (fun _ => False) σ σ') : SAt σ' A S :=
  ⟨k _ _ h.i id, k _ _ h.x id, k _ _ h.d id, fun x hx => k _ _ (h.n x hx) id, fun x hx => k _ _ (h.nd x hx) id, fun x hx => k _ _ (h.l x hx) id, fun rs q => k _ _ (h.r rs q) id, h.nk, h.nl, h.nr⟩
theorem Turn.keeps {σ σ' σ'' : Sto} {A A' : SA} {S S' : SS} (t : Turn σ A S σ' A' S') (k : Keeps (fun _ => False) σ' σ'') : Turn σ A S σ'' A' S' := ⟨t.at_.keeps k, fun a o h1 h2 => ⟨k _ _ (t.keep a o h1 h2).1 id, (t.keep a o h1 h2).2⟩, t.ps⟩
theorem turn_prep {σ : Sto} {A : SA} {S : SS} {a : Addr} (h : SAt σ A S) (hr : S.rd = none) (ha : σ a = Option.none) (v : List Int) : Turn σ A S (upd (upd σ a (.list (iL v))) A.dx (.attrs (tsV { A with r := a } { S with rd := some v }))) { A with r := a } { S with rd := some v } := by
  have old : ∀ {b o}, σ b = some o → o ≠ .attrs (tsV A S) → upd (upd σ a (.list (iL v))) A.dx (.attrs (tsV { A with r := a } { S with rd := some v })) b = some o := fun {b o} q hd => (upd_ne _ _ (ne_of q h.x hd)).trans ((upd_ne _ _ (ne_new q ha)).trans q)
  refine ⟨⟨old h.i (by nofun), upd_self _ _ _, old h.d (by nofun), fun x hx => old (h.n x hx) (by nofun), fun x hx => old (h.nd x hx) (by unfold tsV; nofun), fun x hx => old (h.l x hx) (by nofun), fun rs q => ?_, h.nk, h.nl, fun k hk _ => ne_new (h.l k hk) ha⟩, fun b o h1 h2 => ⟨(upd_ne _ _ fun z => h2 (.inr (.inl z))).trans ((upd_ne _ _ (ne_new h1 ha)).trans h1), fun z => ?_⟩, rfl⟩
  · cases q
    exact (upd_ne _ _ (Ne.symm (ne_new h.x ha))).trans (upd_self _ _ _)
  · rcases z with z | z | z | z | ⟨_, z⟩
    · exact h2 (.inl z)
    · exact h2 (.inr (.inl z))
    · exact h2 (.inr (.inr (.inl z)))
    · exact h2 (.inr (.inr (.inr (.inl z))))
    · exact ne_new h1 ha z
noncomputable def Held (σ : Sto) (A : SA) (S : SS) (a : Addr) (o : AObj) : Prop := σ a = some o ∧ ¬ SOwn A S a
theorem Turn.held {σ σ' : Sto} {A A' : SA} {S S' : SS} {a : Addr} {o : AObj} (t : Turn σ A S σ' A' S') (h : Held σ A S a o) : Held σ' A' S' a o := t.keep a o h.1 h.2
theorem Held.keeps {σ σ' : Sto} {A : SA} {S : SS} {a : Addr} {o : AObj} (h : Held σ A S a o) (k : Keeps (fun _ => False) σ σ') : Held σ' A S a o := ⟨k _ _ h.1 id, h.2⟩
theorem SAt.own {σ : Sto} {A : SA} {S : SS} {a : Addr} (h : SAt σ A S) (ha : SOwn A S a) : ∃ o, σ a = some o := by
  rcases ha with rfl | rfl | rfl | ⟨k, hk, rfl | rfl | rfl⟩ | ⟨hr, rfl⟩
  · exact ⟨_, h.i⟩
  · exact ⟨_, h.x⟩
  · exact ⟨_, h.d⟩
  · exact ⟨_, h.n k hk⟩
  · exact ⟨_, h.nd k hk⟩
  · exact ⟨_, h.l k hk⟩
  · cases q : S.rd with
    | none => exact absurd q hr
    | some rs => exact ⟨_, h.r rs q⟩
theorem SAt.new {σ : Sto} {A : SA} {S : SS} {a : Addr} (h : SAt σ A S) (ha : σ a = Option.none) : ¬ SOwn A S a := fun z => by
  obtain ⟨o, e⟩ := h.own z
  rw [ha] at e; cases e
theorem SAt.other {σ : Sto} {A : SA} {S : SS} {a : Addr} {o : AObj} (h : SAt σ A S) (ha : ¬ SOwn A S a) : SAt (upd σ a o) A S :=
  have k : ∀ {b o'}, SOwn A S b → σ b = some o' → upd σ a o b = some o' := fun hb e => (upd_ne σ o fun z : _ = a => ha (z ▸ hb)).trans e
  ⟨k (.inl rfl) h.i, k (.inr (.inl rfl)) h.x, k (.inr (.inr (.inl rfl))) h.d, fun x hx => k (sown_of hx).1 (h.n x hx), fun x hx => k (sown_of hx).2.1 (h.nd x hx), fun x hx => k (sown_of hx).2.2 (h.l x hx),
   fun rs q => k (.inr (.inr (.inr (.inr ⟨by rw [q]; nofun, rfl⟩)))) (h.r rs q), h.nk, h.nl, h.nr⟩
theorem Held.other {σ : Sto} {A : SA} {S : SS} {a b : Addr} {o o' : AObj} (h : Held σ A S a o) (hn : a ≠ b) : Held (upd σ b o') A S a o := ⟨(upd_ne _ _ hn).trans h.1, h.2⟩
theorem Held.set {σ : Sto} {A : SA} {S : SS} {a : Addr} {o o' : AObj} (h : Held σ A S a o) : Held (upd σ a o') A S a o' := ⟨upd_self _ _ _, h.2⟩
noncomputable def nodesIn : Str := Str.ofString "nodes are in a cycle"
inductive SpPrep2I (as : List AV) (σ : Sto) (Q : AV → Sto → Prop) (X : AX → Sto → Prop) : Prop
  | mk : ∀ A S, (as = [.ptr A.ps]) → (SAt σ A S) → (S.rd = none) → (S.ks.length < 200) → ((∀ k ∈ S.ks, ∀ s ∈ S.su k, s ∈ S.ks)) → ((∀ k ∈ S.ks, (S.su k).length < 900)) → ((∀ A' σ', (∃ rk : Int → Nat, ∀ k ∈ S.ks, ∀ s ∈ S.su k, rk s < rk k) → Turn σ A S σ' A' (prepS S) → Q .none σ')) → ((∀ A' σ' q r, Ring S r → r.length < 900 → Turn σ A S σ' A' (prepS S) → σ q = Option.none → ¬ SOwn A' (prepS S) q → σ' q = some (.list (iL r)) → X ⟨.ref 90, [.str nodesIn, .ptr q]⟩ σ')) → SpPrep2I as σ Q X
noncomputable def spPrep2 : List AV → OD := fun as σ Q X => SpPrep2I as σ Q X
theorem sub_len {a b : List Int} (ha : a.Nodup) (hb : b.Nodup) (h : ∀ x ∈ a, x ∈ b) : a.length ≤ b.length := by
  have : a.Perm (b.filter fun x => decide (x ∈ a)) := (List.perm_ext_iff_of_nodup ha (hb.filter _)).mpr fun x => by
    rw [List.mem_filter, decide_eq_true_eq]; exact ⟨fun z => ⟨h x z, z⟩, fun z => z.2⟩
  rw [this.length_eq]; exact List.length_filter_le _ _
theorem Ring.len {S : SS} {r : List Int} (h : Ring S r) (nk : S.ks.Nodup) : r.length ≤ S.ks.length + 1 := by
  have := sub_len h.2.2.1 nk fun x hx => h.2.2.2.1 x ((List.dropLast_sublist r).subset hx)
  rw [List.length_dropLast] at this; omega
theorem ct127 (B : Bs) (hB : Tp B) (hO : cycO B) (n : Nat) (hfc : SemC B ⟨n, none⟩ (.ref 162) spFC) : SemC B ⟨n + 1, none⟩ (.ref 127) spPrep2 := by
  refine spec_pl (R' := ⟨n, none⟩) (ps := [(Str.ofString "self", .loc)]) (ls := [(Str.ofString "cycle", .loc)]) (fk_of hB (by kernel_rfl)) (by kernel_rfl) rfl rfl (dPrep B ⟨n, none⟩ hB (okF (by kernel_rfl)) rfl hO (meth_of hB (by kernel_rfl)) hfc).2 (by decide) (by kernel_rfl) (bind1 fun a => by kernel_rfl) ?_
  rintro _ σ Q X ⟨A, S, rfl, h, hr, hl, hsu, hsl, hq, hx⟩
  refine ⟨rfl, ?_⟩
  dsimp only [dPrep]
  dsimp only [SSeq, SAsg, SAsg2, Op2, Op1, Var, Con, lget, lset, TSet, TItem, TAttr, TTup, TGo, Tst, e_tru, SIf, SNext, SBrk, SCont, SDo, SRet, BNot, BAll, BAny, e_add, e_iadd, e_sub, e_lt, e_cmp, List.map, List.replicate, List.cons_append, List.nil_append, List.length_cons, List.length_nil, Cal, Evs, Mth, ETup, EList, EDict0, ENamed, EAnd, EOr, SFor, ESlice, EStar, EWrap, STry, SDel, SAugA, EJoin, EJs, SRaise, EArgV]
  refine getI_ok h.i h.x (x := rdV A S.rd) rfl (by rw [hr]; rfl) ⟨_, isN_rd A S.rd, ?_⟩
  rw [hr]
  refine ⟨nofun, fun _ => ?_⟩
  dsimp only [EComp]
  dsimp only [SSeq, SAsg, SAsg2, Op2, Op1, Var, Con, lget, lset, TSet, TItem, TAttr, TTup, TGo, Tst, e_tru, SIf, SNext, SBrk, SCont, SDo, SRet, BNot, BAll, BAny, e_add, e_iadd, e_sub, e_lt, e_cmp, List.map, List.replicate, List.cons_append, List.nil_append, List.length_cons, List.length_nil, Cal, Evs, Mth, ETup, EList, EDict0, ENamed, EAnd, EOr, SFor, ESlice, EStar, EWrap, STry, SDel, SAugA, EJoin, EJs, SRaise, EArgV]
  refine getI_ok h.i h.x (x := .ptr A.dn) rfl rfl ⟨⟨_, _, _, rfl, h.d⟩, ⟨⟨_, _, h.d⟩, _, _, ⟨.vals _ _ _ rfl h.d, nofun, by rw [List.length_map, List.length_map]; omega⟩, ?_⟩⟩
  rw [List.map_map]
  refine comp_pure (fun k => if (S.np k == 0) then some (.int k) else none) (fun m => ∃ u, m = [u]) h.d S.ks [] _ ⟨_, rfl⟩ ?_ ?_
  · rintro k hk _ ⟨u, rfl⟩ W₁ W₀ hW
    dsimp only [SSeq, SAsg, SAsg2, Op2, Op1, Var, Con, lget, lset, TSet, TItem, TAttr, TTup, TGo, Tst, e_tru, SIf, SNext, SBrk, SCont, SDo, SRet, BNot, BAll, BAny, e_add, e_iadd, e_sub, e_lt, e_cmp, List.map, List.replicate, List.cons_append, List.nil_append, List.length_cons, List.length_nil, Cal, Evs, Mth, ETup, EList, EDict0, ENamed, EAnd, EOr, SFor, ESlice, EStar, EWrap, STry, SDel, SAugA, EJoin, EJs, SRaise, EArgV]
    refine getS_ok (h.n k hk) (h.nd k hk) (x := .int (S.np k)) rfl rfl (eq_int ?_)
    dsimp only [SSeq, SAsg, SAsg2, Op2, Op1, Var, Con, lget, lset, TSet, TItem, TAttr, TTup, TGo, Tst, e_tru, SIf, SNext, SBrk, SCont, SDo, SRet, BNot, BAll, BAny, e_add, e_iadd, e_sub, e_lt, e_cmp, List.map, List.replicate, List.cons_append, List.nil_append, List.length_cons, List.length_nil, Cal, Evs, Mth, ETup, EList, EDict0, ENamed, EAnd, EOr, SFor, ESlice, EStar, EWrap, STry, SDel, SAugA, EJoin, EJs, SRaise, EArgV]
    have hw := hW _ ⟨some (.ptr (A.a k)), rfl⟩
    refine ⟨fun z => getS_ok (h.n k hk) (h.nd k hk) (x := .int k) rfl rfl (hw.1 _ (if_pos z)), fun z => hw.2 (if_neg (by rw [z]; nofun))⟩
  · intro a ha
    rw [fm_iL, List.nil_append]
    have t := turn_prep h hr ha (S.ks.filter fun k => S.np k == 0)
    refine setI_ok ((upd_ne _ _ (ne_new h.i ha)).trans h.i) ((upd_ne _ _ (ne_new h.x ha)).trans h.x) (by show 4 < 400; decide) ⟨isInst_of (A := { A with r := a }) t.at_ rfl, ⟨{ A with r := a }, _, rfl, t.at_, hl, hsu, hsl, fun σ' rk k => ⟨nofun, fun _ => ⟨_, Sub.refl _, hq _ _ rk (t.keeps k)⟩⟩, fun σ' q r hr' k hn e => ?_⟩⟩
    have hlr := hr'.len h.nk
    have hlr : r.length < 900 := Nat.lt_of_le_of_lt hlr (by show S.ks.length + 1 < 900; omega)
    have hn' : σ q = none := by
      by_cases z1 : q = A.dx
      · rw [z1, upd_self] at hn; cases hn
      · rw [upd_ne _ _ z1] at hn
        by_cases z2 : q = a
        · rw [z2, upd_self] at hn; cases hn
        · rwa [upd_ne _ _ z2] at hn
    refine ⟨_, ⟨e, by rw [iL_len]; omega⟩, fun _ => ⟨by decide, _, Sub.refl _, hx _ _ q r hr' hlr (t.keeps k) hn' (t.at_.new hn) e⟩, fun z => ?_⟩
    cases r with
    | nil => exact absurd hr'.1 (by decide)
    | cons => cases z
end Mine
-- G9
namespace Mine
noncomputable abbrev Fr := Int × Nat × Addr
noncomputable def nds (ts : List Fr) : List Int := ts.map (·.1)
noncomputable def idxs : List Fr → List (Int × AV)
  | [] => []
  | t :: l => idxs l ++ [(t.1, .int l.length)]
noncomputable def Grey (S : SS) (fin : List Int) : Int → List Fr → Prop
  | _, [] => True
  | c, t :: l => (∃ d r, S.su t.1 = d ++ c :: r ∧ t.2.1 = d.length + 1 ∧ ∀ s ∈ d, s ∈ fin) ∧ Grey S fin t.1 l
noncomputable def Top (S : SS) (fin : List Int) : List Fr → Prop
  | [] => True
  | t :: l => (∃ d r, S.su t.1 = d ++ r ∧ t.2.1 = d.length ∧ ∀ s ∈ d, s ∈ fin) ∧ Grey S fin t.1 l
noncomputable def cnt (S : SS) (xs : List Int) (f : Int → Nat) : Nat := ((S.ks.filter fun k => decide (k ∉ xs)).map f).sum
structure DI (S : SS) (xs fin : List Int) (ts : List Fr) : Prop where
  nd : (nds ts).Nodup
  dj : ∀ x ∈ nds ts, x ∉ fin
  sub : ∀ x ∈ nds ts, x ∈ S.ks
  see : ∀ x, x ∈ xs ↔ x ∈ nds ts ∨ x ∈ fin
  rk : ∃ (rk : Int → Nat) (N : Nat), ∀ x ∈ fin, rk x < N ∧ ∀ s ∈ S.su x, s ∈ fin ∧ rk s < rk x
  len : xs.length + cnt S xs (fun _ => 1) ≤ S.ks.length
  lts : ts.length ≤ xs.length
noncomputable def mT (S : SS) (xs : List Int) (ts : List Fr) : Nat := (ts.map fun t => (S.su t.1).length + 1 - t.2.1).sum + cnt S xs fun k => (S.su k).length + 2
theorem cnt_cons {S : SS} {xs : List Int} {c : Int} {f : Int → Nat} (hc : c ∈ S.ks) (hn : c ∉ xs) : cnt S (c :: xs) f + f c ≤ cnt S xs f := by
  unfold cnt
  have le : ∀ l : List Int, ((l.filter fun k => decide (k ∉ c :: xs)).map f).sum ≤ ((l.filter fun k => decide (k ∉ xs)).map f).sum := fun l => by
    induction l with
    | nil => exact Nat.le_refl _
    | cons a l ih =>
      rw [List.filter_cons, List.filter_cons]
      by_cases q : a ∈ xs
      · rw [if_neg (by simp [q]), if_neg (by simp [q])]; exact ih
      · rw [if_pos (c := decide (a ∉ xs) = true) (by simp [q])]
        split
        · simp only [List.map_cons, List.sum_cons]; omega
        · simp only [List.map_cons, List.sum_cons]; omega
  generalize S.ks = l at hc
  induction l with
  | nil => cases hc
  | cons a l ih =>
    rw [List.filter_cons, List.filter_cons]
    by_cases q : a = c
    · subst q
      rw [if_neg (by simp), if_pos (by simp [hn])]
      have := le l
      simp only [List.map_cons, List.sum_cons]; omega
    · have ih := ih ((List.mem_cons.mp hc).resolve_left (Ne.symm q))
      by_cases q2 : a ∈ xs
      · rw [if_neg (by simp [q2]), if_neg (by simp [q2])]; exact ih
      · rw [if_pos (by simp [q2, q]), if_pos (by simp [q2])]
        simp only [List.map_cons, List.sum_cons]; omega
theorem di_nil (S : SS) : DI S [] [] [] := ⟨List.nodup_nil, nofun, nofun, fun x => by simp [nds], ⟨fun _ => 0, 0, nofun⟩, by unfold cnt; rw [List.filter_eq_self.mpr (by simp)]; simp [List.map_const', List.sum_replicate_nat], Nat.le_refl _⟩
theorem di_push {S : SS} {xs fin : List Int} {ts : List Fr} {c : Int} {I : Addr} (h : DI S xs fin ts) (hc : c ∈ S.ks) (hn : c ∉ xs) : DI S (c :: xs) fin ((c, 0, I) :: ts) :=
  ⟨List.nodup_cons.mpr ⟨fun z => hn ((h.see c).mpr (.inl z)), h.nd⟩, fun x hx => (List.mem_cons.mp hx).elim (fun e z => hn ((h.see c).mpr (.inr (by rw [e] at z; exact z)))) (h.dj x),
    fun x hx => (List.mem_cons.mp hx).elim (fun e => by rw [e]; exact hc) (h.sub x), fun x => by have := h.see x; simp only [nds, List.map_cons, List.mem_cons] at this ⊢; rw [this, or_assoc], h.rk,
    by have := cnt_cons (f := fun _ => 1) hc hn; have := h.len; simp only [List.length_cons]; omega, by have := h.lts; simp only [List.length_cons]; omega⟩
theorem mT_push {S : SS} {xs : List Int} {ts : List Fr} {c : Int} {I : Addr} (hc : c ∈ S.ks) (hn : c ∉ xs) : mT S (c :: xs) ((c, 0, I) :: ts) + 1 ≤ mT S xs ts := by
  have := cnt_cons (f := fun k => (S.su k).length + 2) hc hn
  unfold mT; simp only [List.map_cons, List.sum_cons]; omega
theorem di_pop {S : SS} {xs fin : List Int} {t : Fr} {l : List Fr} (h : DI S xs fin (t :: l)) (hs : ∀ s ∈ S.su t.1, s ∈ fin) : DI S xs (t.1 :: fin) l := by
  have hn : t.1 ∉ nds l := (List.nodup_cons.mp h.nd).1
  have hf : t.1 ∉ fin := h.dj _ (.head _)
  obtain ⟨rk, N, hr⟩ := h.rk
  refine ⟨(List.nodup_cons.mp h.nd).2, fun x hx => ?_, fun x hx => h.sub x (.tail _ hx), fun x => ?_, ⟨fset rk t.1 N, N + 1, fun x hx => ?_⟩, h.len, by have := h.lts; simp only [List.length_cons] at this; omega⟩
  · rw [List.mem_cons, not_or]; exact ⟨fun e => hn (e ▸ hx), h.dj x (.tail _ hx)⟩
  · have := h.see x
    simp only [nds, List.map_cons, List.mem_cons] at this ⊢
    rw [this]
    constructor
    · rintro ((e | e) | e)
      · exact .inr (.inl e)
      · exact .inl e
      · exact .inr (.inr e)
    · rintro (e | e | e)
      · exact .inl (.inr e)
      · exact .inl (.inl e)
      · exact .inr e
  · rcases List.mem_cons.mp hx with e | e
    · rw [e, fset_self]
      exact ⟨Nat.lt_succ_self _, fun s z => ⟨.tail _ (hs s z), by rw [fset_ne _ _ (k := t.1) (x := s) fun q => hf (q ▸ hs s z)]; exact (hr s (hs s z)).1⟩⟩
    · rw [fset_ne _ _ (k := t.1) (x := x) fun q => hf (q ▸ e)]
      exact ⟨Nat.lt_succ_of_lt (hr x e).1, fun s z => ⟨.tail _ ((hr x e).2 s z).1, by rw [fset_ne _ _ (k := t.1) (x := s) fun q => hf (q ▸ ((hr x e).2 s z).1)]; exact ((hr x e).2 s z).2⟩⟩
theorem mT_pop {S : SS} {xs : List Int} {t : Fr} {l : List Fr} (h : t.2.1 ≤ (S.su t.1).length) : mT S xs l + 1 ≤ mT S xs (t :: l) := by
  unfold mT; simp only [List.map_cons, List.sum_cons]; omega
theorem Grey.mono {S : SS} {fin fin' : List Int} (hf : ∀ x ∈ fin, x ∈ fin') : ∀ {c : Int} {l : List Fr}, Grey S fin c l → Grey S fin' c l
  | _, [], _ => trivial
  | c, t :: l, ⟨⟨d, r, h1, h2, h3⟩, h4⟩ => ⟨⟨d, r, h1, h2, fun s hs => hf s (h3 s hs)⟩, h4.mono hf⟩
theorem Grey.done {S : SS} {fin : List Int} {c : Int} (hc : c ∈ fin) : ∀ {l : List Fr}, Grey S fin c l → Top S fin l
  | [], _ => trivial
  | t :: l, ⟨⟨d, r, h1, h2, h3⟩, h4⟩ => ⟨⟨d ++ [c], r, by rw [h1]; simp, by rw [h2]; simp, fun s hs => (List.mem_append.mp hs).elim (h3 s) fun z => by rw [List.mem_singleton.mp z]; exact hc⟩, h4⟩
theorem di_next {S : SS} {xs fin : List Int} {x : Int} {i j : Nat} {I J : Addr} {l : List Fr} (h : DI S xs fin ((x, i, I) :: l)) : DI S xs fin ((x, j, J) :: l) := ⟨h.nd, h.dj, h.sub, h.see, h.rk, h.len, h.lts⟩
theorem mT_next {S : SS} {xs : List Int} {x : Int} {i : Nat} {I : Addr} {l : List Fr} (h : i < (S.su x).length) : mT S xs ((x, i + 1, I) :: l) + 1 ≤ mT S xs ((x, i, I) :: l) := by
  unfold mT; simp only [List.map_cons, List.sum_cons]; omega
noncomputable def Chn (S : SS) : List Int → Prop
  | x :: y :: l => y ∈ S.su x ∧ Chn S (y :: l)
  | _ => True
theorem Chn.snoc {S : SS} {y c : Int} (hc : c ∈ S.su y) : ∀ {l : List Int}, Chn S (l ++ [y]) → Chn S (l ++ [y] ++ [c])
  | [], _ => ⟨hc, trivial⟩
  | [a], h => ⟨h.1, hc, trivial⟩
  | a :: b :: l, h => ⟨h.1, Chn.snoc (l := b :: l) hc h.2⟩
theorem Chn.get {S : SS} : ∀ {l : List Int}, Chn S l → ∀ i, i + 1 < l.length → l.getD (i + 1) 0 ∈ S.su (l.getD i 0)
  | x :: y :: l, h, 0, _ => h.1
  | x :: y :: l, h, i + 1, hi => Chn.get h.2 i (by simp only [List.length_cons] at hi ⊢; omega)
theorem Grey.chn {S : SS} {fin : List Int} {a : Int} {l₂ : List Int} : ∀ {l₁ : List Int} {c : Int} {ts : List Fr}, Grey S fin c ts → nds ts = l₁ ++ a :: l₂ → Chn S ((a :: l₁.reverse) ++ [c])
  | [], c, t :: ts, h, e => by
    obtain ⟨⟨d, r, h1, _⟩, _⟩ := h
    have e : t.1 = a := by injection e
    rw [e] at h1
    exact ⟨by rw [h1]; simp, trivial⟩
  | y :: l₁, c, t :: ts, h, e => by
    obtain ⟨⟨d, r, h1, _⟩, h4⟩ := h
    have e1 : t.1 = y := by injection e
    have e2 : nds ts = l₁ ++ a :: l₂ := by injection e
    rw [e1] at h1 h4
    have := Grey.chn h4 e2
    have := this.snoc (c := c) (by rw [h1]; simp)
    simpa using this
theorem ring_of {S : SS} {xs fin : List Int} {ts : List Fr} {c : Int} {l₁ l₂ : List Int} (g : Grey S fin c ts) (h : DI S xs fin ts) (e : nds ts = l₁ ++ c :: l₂) : Ring S ((c :: l₁.reverse) ++ [c]) := by
  have hn := h.nd
  rw [e] at hn
  refine ⟨by simp, by rw [List.getLast?_concat]; rfl, ?_, fun x hx => h.sub x ?_, (g.chn e).get⟩
  · rw [List.dropLast_concat]
    obtain ⟨h1, h2, h3⟩ := List.nodup_append.mp hn
    exact List.nodup_cons.mpr ⟨fun z => h3 c (List.mem_reverse.mp z) c (.head _) rfl, (List.reverse_perm l₁).nodup_iff.mpr h1⟩
  · rw [e]; simp at hx ⊢; rcases hx with hx | hx | hx
    · exact .inr (.inl hx)
    · exact .inl hx
    · exact .inr (.inl hx)
theorem idxs_keys : ∀ ts : List Fr, (idxs ts).map (·.1) = (nds ts).reverse
  | [] => rfl
  | t :: l => by rw [idxs, List.map_append, idxs_keys l]; simp [nds]
theorem getK_app (a b : List (Int × AV)) (k : Int) : getK (a ++ b) k = (getK a k).or (getK b k) := by
  unfold getK; rw [List.find?_append]; cases List.find? (fun p => decide (p.1 = k)) a <;> rfl
theorem getK_none {es : List (Int × AV)} {k : Int} (h : k ∉ es.map (·.1)) : getK es k = none := by
  unfold getK
  rw [List.find?_eq_none.mpr]
  · rfl
  · intro p hp; simp only [decide_eq_true_eq]; exact fun z => h (z ▸ List.mem_map_of_mem hp)
theorem idxs_get {c : Int} {l₂ : List Int} : ∀ {l₁ : List Int} {ts : List Fr}, nds ts = l₁ ++ c :: l₂ → (nds ts).Nodup → getK (idxs ts) c = some (.int l₂.length)
  | [], t :: ts, e, hn => by
    have e1 : t.1 = c := by injection e
    have e2 : nds ts = l₂ := by injection e
    rw [idxs, getK_app, getK_none (by rw [idxs_keys, List.mem_reverse, ← e1]; exact (List.nodup_cons.mp hn).1), ← e2]
    show getK [(t.1, _)] c = _
    unfold getK; rw [List.find?_cons_of_pos (by simpa using e1)]
    simp [nds]
  | y :: l₁, t :: ts, e, hn => by
    have e2 : nds ts = l₁ ++ c :: l₂ := by injection e
    rw [idxs, getK_app, idxs_get e2 (List.nodup_cons.mp hn).2]; rfl
theorem idxs_none {ts : List Fr} {c : Int} (h : c ∉ nds ts) : getK (idxs ts) c = none := getK_none (by rw [idxs_keys, List.mem_reverse]; exact h)
theorem idxs_put {ts : List Fr} {c : Int} {i : Nat} {I : Addr} (h : c ∉ nds ts) : putK (idxs ts) c (.int ts.length) = idxs ((c, i, I) :: ts) := putK_new _ _ _ (by rw [idxs_keys, List.mem_reverse]; exact h)
theorem idxs_del {t : Fr} {l : List Fr} (h : t.1 ∉ nds l) : delK (idxs (t :: l)) t.1 = idxs l := by
  unfold delK
  rw [idxs, List.filter_append, List.filter_cons_of_neg (by simp), List.filter_nil, List.append_nil, List.filter_eq_self]
  intro p hp
  simp only [decide_eq_true_eq]
  exact fun z => h (by have := List.mem_map_of_mem (f := (·.1)) hp; rw [idxs_keys, List.mem_reverse] at this; rwa [← z])
theorem idxs_len : ∀ ts : List Fr, (idxs ts).length = ts.length
  | [] => rfl
  | t :: l => by rw [idxs, List.length_append, idxs_len l]; rfl
end Mine
-- G10
namespace Mine
structure FSt (σ₀ : Sto) (A : SA) (a a2 a3 a4 : Addr) (σ : Sto) (xs : List Int) (ts : List Fr) : Prop where
  k : Keeps (fun _ => False) σ₀ σ
  st : σ a = some (.list (iL (nds ts).reverse))
  it : σ a2 = some (.list (ts.map fun t => AV.wrap t.2.2).reverse)
  se : σ a3 = some (.set xs)
  ix : ∃ ep, σ a4 = some (.dict (idxs ts) ep)
  fr : ∀ t ∈ ts, σ t.2.2 = some (.liter (A.l t.1) t.2.1) ∧ σ₀ t.2.2 = Option.none
structure FNew (σ₀ : Sto) (a a2 a3 a4 : Addr) : Prop where
  n1 : σ₀ a = Option.none
  n2 : σ₀ a2 = Option.none
  n3 : σ₀ a3 = Option.none
  n4 : σ₀ a4 = Option.none
  ne : a ≠ a2
theorem Keeps.upd {σ₀ σ : Sto} {b : Addr} {o : AObj} (k : Keeps (fun _ => False) σ₀ σ) (h : σ₀ b = Option.none) : Keeps (fun _ => False) σ₀ (upd σ b o) := fun x o' h1 h2 => (upd_ne _ _ (ne_new h1 h)).trans (k x o' h1 h2)
theorem Keeps.drp {σ₀ σ : Sto} {b : Addr} (k : Keeps (fun _ => False) σ₀ σ) (h : σ₀ b = Option.none) : Keeps (fun _ => False) σ₀ (drp σ b) := fun x o' h1 h2 => (drp_ne _ (ne_new h1 h)).trans (k x o' h1 h2)
section
variable {σ₀ σ : Sto} {A : SA} {a a2 a3 a4 : Addr} {xs fin : List Int} {ts : List Fr} {S : SS}
theorem FSt.next {x : Int} {i : Nat} {I : Addr} {l : List Fr} (hl : ∀ k ∈ S.ks, ∀ k' ∈ S.ks, A.l k = A.l k' → k = k') (F : FSt σ₀ A a a2 a3 a4 σ xs ((x, i, I) :: l)) (D : DI S xs fin ((x, i, I) :: l)) : FSt σ₀ A a a2 a3 a4 (upd σ I (.liter (A.l x) (i + 1))) xs ((x, i + 1, I) :: l) := by
  obtain ⟨f1, f2⟩ := F.fr _ (.head _)
  refine ⟨F.k.upd f2, (upd_ne _ _ (ne_of F.st f1 (by nofun))).trans F.st, (upd_ne _ _ (ne_of F.it f1 (by nofun))).trans F.it, (upd_ne _ _ (ne_of F.se f1 (by nofun))).trans F.se, ?_, fun t ht => ?_⟩
  · obtain ⟨ep, e⟩ := F.ix
    exact ⟨ep, (upd_ne _ _ (ne_of e f1 (by nofun))).trans e⟩
  · rcases List.mem_cons.mp ht with rfl | ht
    · exact ⟨upd_self _ _ _, f2⟩
    · obtain ⟨g1, g2⟩ := F.fr t (.tail _ ht)
      refine ⟨(upd_ne _ _ (ne_of g1 f1 fun z => ?_)).trans g1, g2⟩
      have hx : t.1 ∈ nds l := List.mem_map_of_mem ht
      have := hl _ (D.sub t.1 (.tail _ hx)) _ (D.sub x (.head _)) (by injection z)
      exact (List.nodup_cons.mp D.nd).1 (by rw [← this]; exact hx)
theorem FSt.pop {x : Int} {i : Nat} {I : Addr} {l : List Fr} {ep : Nat} (N : FNew σ₀ a a2 a3 a4) (hl : ∀ k ∈ S.ks, ∀ k' ∈ S.ks, A.l k = A.l k' → k = k') (F : FSt σ₀ A a a2 a3 a4 σ xs ((x, i, I) :: l)) (D : DI S xs fin ((x, i, I) :: l)) :
    FSt σ₀ A a a2 a3 a4 (upd (upd (upd (drp σ I) a (.list (iL (nds l).reverse))) a4 (.dict (idxs l) ep)) a2 (.list (l.map fun t => AV.wrap t.2.2).reverse)) xs l := by
  obtain ⟨f1, f2⟩ := F.fr _ (.head _)
  obtain ⟨ep₀, e⟩ := F.ix
  have e1 : a ≠ a4 := ne_of F.st e (by nofun)
  have e2 : a2 ≠ a4 := ne_of F.it e (by nofun)
  refine ⟨(((F.k.drp f2).upd N.n1).upd N.n4).upd N.n2, (upd_ne _ _ N.ne).trans ((upd_ne _ _ e1).trans (upd_self _ _ _)), upd_self _ _ _, ?_, ⟨ep, (upd_ne _ _ (Ne.symm e2)).trans (upd_self _ _ _)⟩, fun t ht => ?_⟩
  · rw [upd_ne _ _ (ne_of F.se F.it (by nofun)), upd_ne _ _ (ne_of F.se e (by nofun)), upd_ne _ _ (ne_of F.se F.st (by nofun)), drp_ne _ (ne_of F.se f1 (by nofun))]; exact F.se
  · obtain ⟨g1, g2⟩ := F.fr t (.tail _ ht)
    refine ⟨?_, g2⟩
    rw [upd_ne _ _ (ne_of g1 F.it (by nofun)), upd_ne _ _ (ne_of g1 e (by nofun)), upd_ne _ _ (ne_of g1 F.st (by nofun)), drp_ne _ (ne_of g1 f1 fun z => ?_)]; exact g1
    have hx : t.1 ∈ nds l := List.mem_map_of_mem ht
    have := hl _ (D.sub t.1 (.tail _ hx)) _ (D.sub x (.head _)) (by injection z)
    exact (List.nodup_cons.mp D.nd).1 (by rw [← this]; exact hx)
theorem FSt.push {c : Int} {I : Addr} {ep : Nat} (N : FNew σ₀ a a2 a3 a4) (F : FSt σ₀ A a a2 a3 a4 σ xs ts) (hI : upd σ a3 (.set (c :: xs)) I = Option.none) :
    FSt σ₀ A a a2 a3 a4 (upd (upd (upd (upd (upd σ a3 (.set (c :: xs))) I (.liter (A.l c) 0)) a2 (.list ((ts.map fun t => AV.wrap t.2.2).reverse ++ [.wrap I]))) a4 (.dict (idxs ((c, 0, I) :: ts)) ep)) a (.list (iL (nds ts).reverse ++ [.int c]))) (c :: xs) ((c, 0, I) :: ts) := by
  obtain ⟨ep₀, e⟩ := F.ix
  have i3 : I ≠ a3 := fun z => by rw [z, upd_self] at hI; cases hI
  have hI0 : σ I = Option.none := by rwa [upd_ne _ _ i3] at hI
  have i1 := Ne.symm (ne_new F.st hI0)
  have i2 := Ne.symm (ne_new F.it hI0)
  have i4 := Ne.symm (ne_new e hI0)
  have e1 : a ≠ a4 := ne_of F.st e (by nofun)
  have e2 : a2 ≠ a4 := ne_of F.it e (by nofun)
  have e31 : a3 ≠ a := ne_of F.se F.st (by nofun)
  have e32 : a3 ≠ a2 := ne_of F.se F.it (by nofun)
  have e34 : a3 ≠ a4 := ne_of F.se e (by nofun)
  have hI1 : σ₀ I = Option.none := by
    cases q : σ₀ I with
    | none => rfl
    | some o => rw [F.k I o q id] at hI0; cases hI0
  refine ⟨((((F.k.upd N.n3).upd hI1).upd N.n2).upd N.n4).upd N.n1, (upd_self _ _ _).trans ?_, ?_, ?_, ⟨ep, (upd_ne _ _ (Ne.symm e1)).trans (upd_self _ _ _)⟩, fun t ht => ?_⟩
  · simp [nds, iL]
  · rw [upd_ne _ _ (Ne.symm N.ne), upd_ne _ _ e2, upd_self]; simp
  · rw [upd_ne _ _ e31, upd_ne _ _ e34, upd_ne _ _ e32, upd_ne _ _ (Ne.symm i3), upd_self]
  · rcases List.mem_cons.mp ht with rfl | ht
    · exact ⟨by rw [upd_ne _ _ i1, upd_ne _ _ i4, upd_ne _ _ i2, upd_self], hI1⟩
    · obtain ⟨g1, g2⟩ := F.fr t ht
      refine ⟨?_, g2⟩
      rw [upd_ne _ _ (ne_of g1 F.st (by nofun)), upd_ne _ _ (ne_of g1 e (by nofun)), upd_ne _ _ (ne_of g1 F.it (by nofun)), upd_ne _ _ (ne_new g1 hI0), upd_ne _ _ (ne_of g1 F.se (by nofun))]; exact g1
theorem idx_last (l : List AV) (x : AV) : idx (l ++ [x]) (-1) = some x := by
  unfold idx
  rw [if_neg (by decide), if_pos (by rw [List.length_append]; simp; omega), show ((-1 : Int) + ((l ++ [x]).length : Nat)).toNat = l.length from by rw [List.length_append]; simp; omega]
  simp
theorem neg_ok {x : Int} {Q : AV → Sto → Prop} {X : AX → Sto → Prop} (h : Q (.int (-x)) σ) : oNeg (.int x) σ Q X := h
noncomputable abbrev inD : SD := SWhile (Tst tru (Var (0 + 1 + 1))) (STry (Value.type "StopIteration") (SSeq (SAsg (TSet (0 + 1 + 1 + 1 + 1 + 1 + 1)) (EWrap (Op2 oItem (Var (0 + 1 + 1 + 1)) (Op1 oNeg (Con (AV.int 1)))))) SBrk)
  (fun ea y => SSeq (SDel oDel (Var (0 + 1 + 1 + 1 + 1 + 1)) (Mth isList oPop (Var (0 + 1 + 1)) [])) (SDo (Mth isList oPop (Var (0 + 1 + 1 + 1)) []))) none) SBrk
theorem inner_ok {Q : Out → AS → Prop} {X : QX} {n : Nat} {v1 v2 : AV} (N : FNew σ₀ a a2 a3 a4) (h : SAt σ₀ A S) (hsu : ∀ k ∈ S.ks, ∀ s ∈ S.su k, s ∈ S.ks) (hlk : S.ks.length < 200)
    (hb : ∀ c fin ts σ', mT S xs ts + 1 ≤ n → FSt σ₀ A a a2 a3 a4 σ' xs ts → DI S xs fin ts → Grey S fin c ts → c ∈ S.ks → Q .next ⟨[some v1, some v2, some (.ptr a), some (.ptr a2), some (.ptr a3), some (.ptr a4), some (.int c)], σ'⟩)
    (he : ∀ fin σ' u, FSt σ₀ A a a2 a3 a4 σ' xs [] → DI S xs fin [] → Q .brk ⟨[some v1, some v2, some (.ptr a), some (.ptr a2), some (.ptr a3), some (.ptr a4), u], σ'⟩)
    {u : Option AV} (hn : mT S xs ts ≤ n) (F : FSt σ₀ A a a2 a3 a4 σ xs ts) (D : DI S xs fin ts) (T : Top S fin ts) : inD ⟨[some v1, some v2, some (.ptr a), some (.ptr a2), some (.ptr a3), some (.ptr a4), u], σ⟩ Q X := by
  refine while_rule (fun k st => Ex4 fun fin ts σ u => An6 (mT S xs ts ≤ k) (mT S xs ts ≤ n) (st = ⟨[some v1, some v2, some (.ptr a), some (.ptr a2), some (.ptr a3), some (.ptr a4), u], σ⟩) (FSt σ₀ A a a2 a3 a4 σ xs ts) (DI S xs fin ts) (Top S fin ts)) n _ ⟨fin, ts, σ, u, hn, hn, rfl, F, D, T⟩ ?_
  rintro W k _ ⟨fin, ts, σ, u, hk, hn, rfl, F, D, T⟩ hW
  have l1 : ts.length < 300 := by have := D.lts; have := D.len; omega
  dsimp only [SSeq, SAsg, SAsg2, Op2, Op1, Var, Con, lget, lset, TSet, TItem, TAttr, TTup, TGo, Tst, e_tru, SIf, SNext, SBrk, SCont, SDo, SRet, BNot, BAll, BAny, e_add, e_iadd, e_sub, e_lt, e_cmp, List.map, List.replicate, List.cons_append, List.nil_append, List.length_cons, List.length_nil, Cal, Evs, Mth, ETup, EList, EDict0, ENamed, EAnd, EOr, SFor, ESlice, EStar, EWrap, STry, SDel, SAugA, EJoin, EJs, SRaise, EArgV]
  refine ⟨_, ⟨F.st, ?_⟩, ?_⟩
  · rw [iL_len, List.length_reverse]; show (List.map _ ts).length < _; rw [List.length_map]; omega
  cases ts with
  | nil => exact ⟨nofun, fun _ => he fin σ u F D⟩
  | cons t l =>
    obtain ⟨x, i, I⟩ := t
    refine ⟨fun _ => ?_, fun z => ?_⟩
    · obtain ⟨f1, f2⟩ := F.fr _ (.head _)
      have hx : x ∈ S.ks := D.sub x (.head _)
      have hL := F.k _ _ (h.l x hx) id
      obtain ⟨⟨d, r, hd, hi, hdf⟩, G⟩ := T
      dsimp only at hd hi G f1 f2
      have hlen : ((((x, i, I) :: l).map fun t : Fr => AV.wrap t.2.2).reverse).length < 1000 := by rw [List.length_reverse, List.length_map]; omega
      refine neg_ok ?_
      refine item_list F.it hlen (x := .wrap I) ?_ ⟨I, A.l x, i, _, rfl, f1, hL, fun y hy => ?_, fun hy => ⟨rfl, fun ea => ?_⟩⟩
      · rw [List.map_cons, List.reverse_cons]; exact idx_last _ _
      · cases r with
        | nil =>
          rw [hd, List.append_nil, List.getElem?_eq_none (by rw [iL_len]; omega)] at hy; cases hy
        | cons c r =>
          have e : y = .int c := by
            rw [hd] at hy
            unfold iL at hy
            rw [List.getElem?_map, List.getElem?_append_right (by omega), hi, Nat.sub_self] at hy
            cases hy; rfl
          subst e
          have hil : i < (S.su x).length := by rw [hd, List.length_append]; simp; omega
          have := mT_next (S := S) (xs := xs) (I := I) (l := l) hil
          exact hb c fin _ _ (by omega) (F.next h.nl D) (di_next D) ⟨⟨d, r, hd, by rw [hi], hdf⟩, G⟩ (hsu x hx c (by rw [hd]; simp))
      · have hr : r = [] := by
          cases r with
          | nil => rfl
          | cons c r =>
            exfalso
            rw [List.getElem?_eq_none_iff, iL_len, hd, List.length_append] at hy
            simp at hy; omega
        subst hr
        rw [List.append_nil] at hd
        obtain ⟨ep, e⟩ := F.ix
        have s1 : drp σ I a = some (.list (iL (nds l).reverse ++ [.int x])) := by
          rw [drp_ne _ (ne_of F.st f1 (by nofun)), F.st]; simp [nds, iL]
        have l2 : (iL (nds l).reverse).length < 1000 := by rw [iL_len, List.length_reverse]; show (List.map _ l).length < _; rw [List.length_map]; simp at l1; omega
        refine ⟨⟨_, _, rfl, s1⟩, ⟨_, _, ⟨s1, l2⟩, ?_⟩⟩
        have e4 : upd (drp σ I) a (.list (iL (nds l).reverse)) a4 = some (.dict (idxs ((x, i, I) :: l)) ep) := by
          rw [upd_ne _ _ (ne_of e F.st (by nofun)), drp_ne _ (ne_of e f1 (by nofun))]; exact e
        have hxn : x ∉ nds l := (List.nodup_cons.mp D.nd).1
        refine ⟨_, _, ⟨e4, by rw [idxs_len]; omega, by rw [idxs_get (l₁ := []) (l₂ := nds l) rfl D.nd]; rfl⟩, fun ep' => ?_⟩
        rw [show delK (idxs ((x, i, I) :: l)) x = idxs l from idxs_del (t := (x, i, I)) hxn]
        have e2 : a2 ≠ a4 := ne_of F.it e (by nofun)
        have s2 : upd (upd (drp σ I) a (.list (iL (nds l).reverse))) a4 (.dict (idxs l) ep') a2 = some (.list ((l.map fun t : Fr => AV.wrap t.2.2).reverse ++ [.wrap I])) := by
          rw [upd_ne _ _ e2, upd_ne _ _ (Ne.symm N.ne), drp_ne _ (ne_of F.it f1 (by nofun)), F.it]; simp
        refine ⟨⟨_, _, rfl, s2⟩, ⟨_, _, ⟨s2, by rw [List.length_reverse, List.length_map]; simp at l1; omega⟩, ?_⟩⟩
        have hil : i ≤ (S.su x).length := by rw [hd, hi]; exact Nat.le_refl _
        have := mT_pop (S := S) (xs := xs) (t := (x, i, I)) (l := l) hil
        refine hW (k - 1) _ (by omega) ⟨x :: fin, l, _, u, by omega, by omega, rfl, F.pop N h.nl D, di_pop D (fun s hs => hdf s (by rw [← hd]; exact hs)), (G.mono fun y hy => .tail _ hy).done (.head _)⟩
    · simp [nds, iL] at z
end
end Mine
-- G11
namespace Mine
section
variable {σ₀ σ : Sto} {A : SA} {a a2 a3 a4 : Addr} {xs fin : List Int} {ts : List Fr} {S : SS}
noncomputable abbrev outD (h₀ : Heap) : SD := SWhile (Tst tru (Con (AV.bool true))) (SSeq (SIf (Tst tru (Op2 (oIn false) (Var (0 + 1 + 1 + 1 + 1 + 1 + 1)) (Var (0 + 1 + 1 + 1 + 1))))
    (SIf (Tst tru (Op2 (oIn false) (Var (0 + 1 + 1 + 1 + 1 + 1 + 1)) (Var (0 + 1 + 1 + 1 + 1 + 1))))
      (SRet (Op2 oAddX (ESlice (oSlice h₀) (Var (0 + 1 + 1)) (Op2 oItem (Var (0 + 1 + 1 + 1 + 1 + 1)) (Var (0 + 1 + 1 + 1 + 1 + 1 + 1))) (Con AV.none) (Con AV.none)) (EList [Var (0 + 1 + 1 + 1 + 1 + 1 + 1)]))) SNext)
    (SSeq (SDo (Mth isSet oSetAdd (Var (0 + 1 + 1 + 1 + 1)) [Var (0 + 1 + 1 + 1 + 1 + 1 + 1)]))
      (SSeq (SDo (Mth isList oAppend (Var (0 + 1 + 1 + 1)) [Op1 oNxA (Cal oIter [Op1 (oGetS 75 2) (Op2 oItem (Var (0 + 1)) (Var (0 + 1 + 1 + 1 + 1 + 1 + 1)))])]))
        (SSeq (SAsg (TItem oSetItem (Var (0 + 1 + 1 + 1 + 1 + 1)) (Var (0 + 1 + 1 + 1 + 1 + 1 + 1))) (Cal oLen [Var (0 + 1 + 1)]))
          (SDo (Mth isList oAppend (Var (0 + 1 + 1)) [Var (0 + 1 + 1 + 1 + 1 + 1 + 1)])))))) inD) SNext
theorem Keeps.none {b : Addr} (k : Keeps (fun _ => False) σ₀ σ) (h : σ b = Option.none) : σ₀ b = Option.none := by
  cases q : σ₀ b with
  | none => rfl
  | some o => rw [k b o q id] at h; cases h
theorem pickL_from {xs : List AV} {k : Nat} (h : k ≤ xs.length) : pickL xs (some (k : Int)) none none = xs.drop k := by
  rw [pickL_plain]
  have e : clipAt xs.length (k : Int) = k := by unfold clipAt; omega
  show (xs.drop (clipAt xs.length (k : Int))).take (xs.length - clipAt xs.length (k : Int)) = _
  rw [e]
  exact List.take_of_length_le (by simp)
theorem outer_ok {h₀ : Heap} {Q : Out → AS → Prop} {X : QX} {v1 : AV} {c₀ : Int} (N : FNew σ₀ a a2 a3 a4) (h : SAt σ₀ A S) (hsu : ∀ k ∈ S.ks, ∀ s ∈ S.su k, s ∈ S.ks) (hlk : S.ks.length < 200)
    (hr : ∀ q r σ', Ring S r → Keeps (fun _ => False) σ₀ σ' → σ₀ q = Option.none → σ' q = some (.list (iL r)) → ∀ m, Q (.ret (.ptr q)) ⟨m, σ'⟩)
    (he : ∀ xs' fin σ' u, FSt σ₀ A a a2 a3 a4 σ' xs' [] → DI S xs' fin [] → (∀ x ∈ xs, x ∈ xs') → c₀ ∈ xs' → Q .next ⟨[some v1, some (.ptr A.dn), some (.ptr a), some (.ptr a2), some (.ptr a3), some (.ptr a4), u], σ'⟩)
    (F : FSt σ₀ A a a2 a3 a4 σ xs []) (D : DI S xs fin []) (hc : c₀ ∈ S.ks) : outD h₀ ⟨[some v1, some (.ptr A.dn), some (.ptr a), some (.ptr a2), some (.ptr a3), some (.ptr a4), some (.int c₀)], σ⟩ Q X := by
  refine while_rule (fun n st => Ex5 fun xs' fin ts σ c => An8 (mT S xs' ts ≤ n) (st = ⟨[some v1, some (.ptr A.dn), some (.ptr a), some (.ptr a2), some (.ptr a3), some (.ptr a4), some (.int c)], σ⟩) (FSt σ₀ A a a2 a3 a4 σ xs' ts) (DI S xs' fin ts) (Grey S fin c ts) (c ∈ S.ks) ((∀ x ∈ xs, x ∈ xs')) ((c₀ ∈ xs' ∨ c = c₀))) (mT S xs []) _ ⟨xs, fin, [], σ, c₀, Nat.le_refl _, rfl, F, D, trivial, hc, fun _ z => z, .inr rfl⟩ ?_
  rintro W n _ ⟨xs', fin, ts, σ, c, hn, rfl, F, D, G, hc, hxs, h0⟩ hW
  have l1 : ts.length < 300 := by have := D.lts; have := D.len; omega
  obtain ⟨ep, e4⟩ := F.ix
  dsimp only [Tst, Con, e_tru]
  refine ⟨fun _ => ?_, nofun⟩
  dsimp only [SSeq, SIf, Tst, Op2, Var, lget]
  refine .inr (.inl ⟨xs', c, ⟨F.se, rfl⟩, ?_⟩)
  dsimp only [SSeq, SAsg, SAsg2, Op2, Op1, Var, Con, lget, lset, TSet, TItem, TAttr, TTup, TGo, Tst, e_tru, SIf, SNext, SBrk, SCont, SDo, SRet, BNot, BAll, BAny, e_add, e_iadd, e_sub, e_lt, e_cmp, List.map, List.replicate, List.cons_append, List.nil_append, List.length_cons, List.length_nil, Cal, Evs, Mth, ETup, EList, EDict0, ENamed, EAnd, EOr, SFor, ESlice, EStar, EWrap, STry, SDel, SAugA, EJoin, EJs, SRaise, EArgV]
  refine ⟨fun z => ?_, fun z => ?_⟩
  · refine .inr (.inr ⟨_, _, c, ⟨e4, rfl⟩, ?_⟩)
    dsimp only [SSeq, SAsg, SAsg2, Op2, Op1, Var, Con, lget, lset, TSet, TItem, TAttr, TTup, TGo, Tst, e_tru, SIf, SNext, SBrk, SCont, SDo, SRet, BNot, BAll, BAny, e_add, e_iadd, e_sub, e_lt, e_cmp, List.map, List.replicate, List.cons_append, List.nil_append, List.length_cons, List.length_nil, Cal, Evs, Mth, ETup, EList, EDict0, ENamed, EAnd, EOr, SFor, ESlice, EStar, EWrap, STry, SDel, SAugA, EJoin, EJs, SRaise, EArgV]
    refine ⟨fun z2 => ?_, fun z2 => ?_⟩
    · have hin : c ∈ nds ts := Decidable.byContradiction fun q => by rw [idxs_none q] at z2; cases z2
      obtain ⟨l₁, l₂, e⟩ := List.append_of_mem hin
      refine item_dict e4 (idxs_get e D.nd) ?_
      have hlen : (iL (nds ts).reverse).length < 1000 := by rw [iL_len, List.length_reverse]; show (List.map _ ts).length < _; rw [List.length_map]; omega
      have hpick : pickL (iL (nds ts).reverse) (some (l₂.length : Int)) none none = iL (c :: l₁.reverse) := by
        have e2 : iL (nds ts).reverse = iL l₂.reverse ++ iL (c :: l₁.reverse) := by rw [e]; simp [iL]
        rw [e2, pickL_from (by simp [iL])]
        exact List.drop_left' (by simp [iL])
      refine ⟨_, some l₂.length, none, none, ⟨F.st, hlen, rfl, rfl, rfl, nofun⟩, fun b hb => ⟨by decide, fun b₂ hb₂ => ?_⟩⟩
      rw [hpick] at hb₂ ⊢
      have hbb : b ≠ b₂ := ne_new (upd_self _ _ _) hb₂
      refine ⟨_, _, ⟨(upd_ne _ _ hbb).trans (upd_self _ _ _), upd_self _ _ _, ?_⟩, fun q hq => ?_⟩
      · have : l₁.length + l₂.length + 1 = ts.length := by have := congrArg List.length e; simp [nds] at this; omega
        simp [iL]; omega
      · have k1 := F.k.upd (o := .list (iL (c :: l₁.reverse))) (F.k.none hb)
        have k2 := k1.upd (o := .list [.int c]) (k1.none hb₂)
        exact hr q _ _ (ring_of G D e) (k2.upd (k2.none hq)) (k2.none hq) ((upd_self _ _ _).trans (by simp [iL])) _
    · have hin : c ∉ nds ts := fun q => by
        obtain ⟨l₁, l₂, e⟩ := List.append_of_mem q
        rw [idxs_get e D.nd] at z2; cases z2
      have hx : c ∈ xs' := by simpa using z
      have hf : c ∈ fin := ((D.see c).mp hx).resolve_left hin
      have h0 : c₀ ∈ xs' := h0.elim id fun q => q ▸ hx
      exact inner_ok (n := n) N h hsu hlk (fun c fin ts σ' h1 h2 h3 h4 h5 => hW (n - 1) _ (by omega) ⟨xs', fin, ts, σ', c, by omega, rfl, h2, h3, h4, h5, hxs, .inl h0⟩) (fun fin σ' u h1 h2 => he xs' fin σ' u h1 h2 hxs h0) hn F D (G.done hf)
  · have hx : c ∉ xs' := by simpa using z
    have hlx : xs'.length < 300 := by have := D.len; omega
    refine ⟨⟨_, _, rfl, F.se⟩, ⟨_, ⟨F.se, by unfold scanBound; omega⟩, ?_⟩⟩
    rw [show putS xs' c = c :: xs' from if_neg hx]
    have k1 := F.k.upd (o := .set (c :: xs')) N.n3
    have s2 := (upd_ne σ (.set (c :: xs')) (ne_of F.it F.se (by nofun))).trans F.it
    have s1 := (upd_ne σ (.set (c :: xs')) (ne_of F.st F.se (by nofun))).trans F.st
    have s4 := (upd_ne σ (.set (c :: xs')) (ne_of e4 F.se (by nofun))).trans e4
    have hcn : c ∉ nds ts := fun q => hx ((D.see c).mpr (.inl q))
    refine ⟨⟨_, _, rfl, s2⟩, item_dict (k1 _ _ h.d id) (x := .ptr (A.a c)) (by rw [getK_map, if_pos hc]) (getS_ok (k1 _ _ (h.n c hc) id) (k1 _ _ (h.nd c hc) id) (x := .ptr (A.l c)) rfl rfl ⟨_, _, rfl, k1 _ _ (h.l c hc) id, fun I hI => ⟨I, _, _, rfl, upd_self _ _ _, ?_⟩⟩)⟩
    have i2 : a2 ≠ I := ne_new s2 hI
    have i1 : a ≠ I := ne_new s1 hI
    have i4 : a4 ≠ I := ne_new s4 hI
    have e42 : a4 ≠ a2 := ne_of e4 F.it (by nofun)
    have e14 : a ≠ a4 := ne_of F.st e4 (by nofun)
    refine append_list ((upd_ne _ _ i2).trans s2) (by rw [List.length_reverse, List.length_map]; omega) ?_
    have hl1 : (iL (nds ts).reverse).length = ts.length := by rw [iL_len, List.length_reverse]; exact List.length_map ..
    refine len_list ((upd_ne _ _ N.ne).trans ((upd_ne _ _ i1).trans s1)) (by omega) ?_
    rw [hl1]
    refine set_dict ((upd_ne _ _ e42).trans ((upd_ne _ _ i4).trans s4)) (by rw [idxs_len]; omega) fun ep' => ?_
    rw [idxs_put (i := 0) (I := I) hcn]
    have s5 := (upd_ne (upd (upd (upd σ a3 (.set (c :: xs'))) I (.liter (A.l c) 0)) a2 (.list ((ts.map fun t : Fr => AV.wrap t.2.2).reverse ++ [.wrap I]))) (.dict (idxs ((c, 0, I) :: ts)) ep') e14).trans ((upd_ne _ _ N.ne).trans ((upd_ne _ _ i1).trans s1))
    refine ⟨⟨_, _, rfl, s5⟩, append_list s5 (by omega) ?_⟩
    have := mT_push (S := S) (ts := ts) (I := I) hc hx
    exact inner_ok (n := n) N h hsu hlk (fun c' fin ts σ' h1 h2 h3 h4 h5 => hW (n - 1) _ (by omega) ⟨c :: xs', fin, ts, σ', c', by omega, rfl, h2, h3, h4, h5, fun x hx => .tail _ (hxs x hx), .inl (h0.elim (.tail _) fun q => q ▸ .head _)⟩) (fun fin σ' u h1 h2 => he (c :: xs') fin σ' u h1 h2 (fun x hx => .tail _ (hxs x hx)) (h0.elim (.tail _) fun q => q ▸ .head _)) (by omega) (F.push N hI) (di_push D hc hx) ⟨⟨[], S.su c, rfl, rfl, nofun⟩, G⟩
end
end Mine
-- G12
namespace Mine
theorem ct162 (B : Bs) (hB : Tp B) (n : Nat) : SemC B ⟨n + 1, none⟩ (.ref 162) spFC := by
  refine spec_pl (R' := ⟨n, none⟩) (ps := [(Str.ofString "self", .loc)]) (ls := [(Str.ofString "n2i", .loc), (Str.ofString "stack", .loc), (Str.ofString "itstack", .loc), (Str.ofString "seen", .loc), (Str.ofString "node2stacki", .loc), (Str.ofString "node", .loc)]) (fk_of hB (by kernel_rfl)) (by kernel_rfl) rfl rfl (dFC B ⟨n, none⟩ hB (okF (by kernel_rfl)) rfl).2 (by decide) (by kernel_rfl) (bind1 fun a => by kernel_rfl) ?_
  rintro _ σ Q X ⟨A, S, rfl, h, hl, hsu, hsl, hq, hq'⟩
  refine ⟨rfl, ?_⟩
  dsimp only [dFC]
  dsimp only [SSeq, SAsg, SAsg2, Op2, Op1, Var, Con, lget, lset, TSet, TItem, TAttr, TTup, TGo, Tst, e_tru, SIf, SNext, SBrk, SCont, SDo, SRet, BNot, BAll, BAny, e_add, e_iadd, e_sub, e_lt, e_cmp, List.map, List.replicate, List.cons_append, List.nil_append, List.length_cons, List.length_nil, Cal, Evs, Mth, ETup, EList, EDict0, ENamed, EAnd, EOr, SFor, ESlice, EStar, EWrap, STry, SDel, SAugA, EJoin, EJs, SRaise, EArgV]
  refine getI_ok h.i h.x (x := .ptr A.dn) rfl rfl ⟨by decide, fun a ha => ⟨by decide, fun a2 ha2 a3 ha3 a4 ha4 => ?_⟩⟩
  have n12 : a ≠ a2 := ne_new (upd_self _ _ _) ha2
  have n2 : σ a2 = Option.none := by rwa [upd_ne _ _ (Ne.symm n12)] at ha2
  have n23 : a2 ≠ a3 := ne_new (upd_self _ _ _) ha3
  have n13 : a ≠ a3 := ne_new ((upd_ne _ _ n12).trans (upd_self _ _ _)) ha3
  have n3 : σ a3 = Option.none := by rwa [upd_ne _ _ (Ne.symm n23), upd_ne _ _ (Ne.symm n13)] at ha3
  have n34 : a3 ≠ a4 := ne_new (upd_self _ _ _) ha4
  have n24 : a2 ≠ a4 := ne_new ((upd_ne _ _ n23).trans (upd_self _ _ _)) ha4
  have n14 : a ≠ a4 := ne_new ((upd_ne _ _ n13).trans ((upd_ne _ _ n12).trans (upd_self _ _ _))) ha4
  have n4 : σ a4 = Option.none := by rwa [upd_ne _ _ (Ne.symm n34), upd_ne _ _ (Ne.symm n24), upd_ne _ _ (Ne.symm n14)] at ha4
  have N : FNew σ a a2 a3 a4 := ⟨ha, n2, n3, n4, n12⟩
  have k0 : Keeps (fun _ => False) σ σ := fun _ _ h _ => h
  have F₀ : FSt σ A a a2 a3 a4 (upd (upd (upd (upd σ a (.list [])) a2 (.list [])) a3 (.set [])) a4 (.dict [] 0)) [] [] :=
    ⟨(((k0.upd ha).upd n2).upd n3).upd n4, by rw [upd_ne _ _ n14, upd_ne _ _ n13, upd_ne _ _ n12, upd_self]; rfl, by rw [upd_ne _ _ n24, upd_ne _ _ n23, upd_self]; rfl, by rw [upd_ne _ _ n34, upd_self], ⟨0, upd_self _ _ _⟩, nofun⟩
  refine ⟨_, _, .dict _ _ _ rfl (F₀.k _ _ h.d id), ?_⟩
  have e : List.map (fun p : Int × AV => AV.int p.1) (S.ks.map fun k => (k, AV.ptr (A.a k))) = iL S.ks := List.map_map
  rw [e]
  refine for_rule (fun rest st => Ex6 fun done todo xs fin σ' u => An6 (rest = iL todo) (S.ks = done ++ todo) (st = ⟨[some (.ptr A.ps), some (.ptr A.dn), some (.ptr a), some (.ptr a2), some (.ptr a3), some (.ptr a4), u], σ'⟩) (FSt σ A a a2 a3 a4 σ' xs []) (DI S xs fin []) (∀ x ∈ done, x ∈ xs)) _ _ ⟨[], S.ks, [], [], _, none, rfl, rfl, rfl, F₀, di_nil S, nofun⟩ ?_ ?_
  · rintro W x xs _ ⟨done, todo, xs, fin, σ', u, e, hd, rfl, F, D, hx⟩ hW
    obtain ⟨c, todo, rfl⟩ : ∃ p t, todo = p :: t := by cases todo with | nil => cases e | cons p t => exact ⟨p, t, rfl⟩
    cases e
    refine ⟨F.k _ _ h.d id, ?_⟩
    have hc : c ∈ S.ks := by rw [hd]; simp
    dsimp only [TSet, lset, SSeq, SIf, Tst, Op2, Var, lget]
    refine .inr (.inl ⟨xs, c, ⟨F.se, rfl⟩, ?_⟩)
    dsimp only [e_tru, SCont, SNext]
    refine ⟨fun z => hW _ ⟨done ++ [c], todo, xs, fin, σ', _, rfl, by rw [hd]; simp, rfl, F, D, fun y hy => (List.mem_append.mp hy).elim (hx y) fun q => by rw [List.mem_singleton.mp q]; simpa using z⟩, fun z => ?_⟩
    refine outer_ok (c₀ := c) N h hsu hl (fun q r σ' h1 h2 h3 h4 m => ⟨_, Sub.refl _, hq' σ' q r h1 h2 h3 h4⟩) (fun xs' fin σ' u h1 h2 h3 h4 => hW _ ⟨done ++ [c], todo, xs', fin, σ', u, rfl, by rw [hd]; simp, rfl, h1, h2, fun y hy => (List.mem_append.mp hy).elim (fun q => h3 y (hx y q)) fun q => by rw [List.mem_singleton.mp q]; exact h4⟩) F D hc
  · rintro _ ⟨done, todo, xs, fin, σ', u, e, hd, rfl, F, D, hx⟩
    cases todo with
    | cons => cases e
    | nil =>
      rw [List.append_nil] at hd
      subst hd
      refine ⟨F.k _ _ h.d id, _, Sub.refl _, hq _ ?_ F.k⟩
      obtain ⟨rk, M, hr⟩ := D.rk
      exact ⟨rk, fun k hk s hs => ((hr k (((D.see k).mp (hx k hk)).resolve_left nofun)).2 s hs).2⟩
theorem ct172 (B : Bs) (hB : Tp B) (n : Nat) : SemC B ⟨n + 6, none⟩ (.ref 172) (oMake 172 spInit0) :=
  SemC_make (R' := ⟨n + 5, none⟩) (fI := 108) (by rw [hB]; kernel_rfl) (by rw [hB]; kernel_rfl) (by rw [hB]; kernel_rfl) rfl rfl (ct108 B hB n)
end Mine
-- L1
namespace Mine
inductive SpSDI (as : List AV) (σ : Sto) (Q : AV → Sto → Prop) : Prop
  | mk : ∀ p k xs, (as = [.ptr p, .int 0, .int k]) → (σ p = some (.list (prs xs))) → (xs.length < 900) → (0 ≤ k) → (k.toNat < xs.length) → (HpX xs k.toNat) → (∀ ys, ys.Perm xs → Hp ys → Q .none (upd σ p (.list (prs ys)))) → SpSDI as σ Q
noncomputable def spSD : List AV → OD := fun as σ Q _ => SpSDI as σ Q
inductive SpSUI (as : List AV) (σ : Sto) (Q : AV → Sto → Prop) : Prop
  | mk : ∀ p xs, (as = [.ptr p, .int 0]) → (σ p = some (.list (prs xs))) → (xs.length < 900) → (xs ≠ []) → (UpI xs 0) → (∀ ys, ys.Perm xs → Hp ys → Q .none (upd σ p (.list (prs ys)))) → SpSUI as σ Q
noncomputable def spSU : List AV → OD := fun as σ Q _ => SpSUI as σ Q
inductive SpPushI (as : List AV) (σ : Sto) (Q : AV → Sto → Prop) : Prop
  | mk : ∀ p xs a, (as = [.ptr p, prv a]) → (σ p = some (.list (prs xs))) → (xs.length < 800) → (Hp xs) → (∀ ys, ys.Perm (a :: xs) → Hp ys → Q .none (upd σ p (.list (prs ys)))) → SpPushI as σ Q
noncomputable def spPush : List AV → OD := fun as σ Q _ => SpPushI as σ Q
inductive SpPopI (as : List AV) (σ : Sto) (Q : AV → Sto → Prop) : Prop
  | mk : ∀ p xs, (as = [.ptr p]) → (σ p = some (.list (prs xs))) → (xs.length < 800) → (xs ≠ []) → (Hp xs) → (∀ m ys, (m :: ys).Perm xs → (∀ x ∈ xs, ¬ PL x m) → Hp ys → Q (prv m) (upd σ p (.list (prs ys)))) → SpPopI as σ Q
noncomputable def spPop : List AV → OD := fun as σ Q _ => SpPopI as σ Q
inductive SpPPI (as : List AV) (σ : Sto) (Q : AV → Sto → Prop) : Prop
  | mk : ∀ p xs a, (as = [.ptr p, prv a]) → (σ p = some (.list (prs xs))) → (xs.length < 800) → (Hp xs) → (∀ m ys, (m :: ys).Perm (a :: xs) → (∀ x ∈ a :: xs, ¬ PL x m) → Hp ys → Q (prv m) (upd σ p (.list (prs ys)))) → SpPPI as σ Q
noncomputable def spPP : List AV → OD := fun as σ Q _ => SpPPI as σ Q
noncomputable def dealt (base ns : List Int) : List Int := (List.range base.length).map fun k => base.getD k 0 + (pickL ns (some (k : Int)) none (some (base.length : Int))).sum
inductive SpDealtI (as : List AV) (σ : Sto) (Q : AV → Sto → Prop) : Prop
  | mk : ∀ b n base ns, (as = [.ptr b, .ptr n]) → (σ b = some (.list (iL base))) → (σ n = some (.list (iL ns))) → (base ≠ []) → (base.length < 100) → (ns.length < 100) → (∀ q σ', σ q = Option.none → σ' q = some (.list (iL (dealt base ns))) → Keeps (fun _ => False) σ σ' → Q (.ptr q) σ') → SpDealtI as σ Q
noncomputable def spDealt : List AV → OD := fun as σ Q _ => SpDealtI as σ Q
inductive SpLawI (B : Bs) (as : List AV) (σ : Sto) (Q : AV → Sto → Prop) : Prop
  | mk : ∀ p vs ns, (as = [.con (.ref p)]) → (B.h₀.IsList p vs.toArray) → (IntsAre vs ns) → (ns.length < 100) → (∀ σ', Q (.bool true) σ') → SpLawI B as σ Q
noncomputable def spLaw (B : Bs) : List AV → OD := fun as σ Q _ => SpLawI B as σ Q
end Mine
section
set_option maxHeartbeats 4000000
-- L1d
namespace Mine
noncomputable abbrev fcSD : FC := ⟨[(Str.ofString "heap", .loc), (Str.ofString "startpos", .loc), (Str.ofString "pos", .loc), (Str.ofString "newitem", .loc), (Str.ofString "parentpos", .loc), (Str.ofString "parent", .loc)], [(Str.ofString "heap", .local), (Str.ofString "startpos", .local), (Str.ofString "pos", .local), (Str.ofString "newitem", .local), (Str.ofString "parentpos", .local), (Str.ofString "parent", .local)]⟩
noncomputable def dSD (B : Bs) (R : Rm) (hB : Tp B) (hF : FcOk fcSD) : { d : SD // SemSs B fcSD R (bodyOf B 49) d } := by
  apply Subtype.mk
  case property =>
    change SemSs B _ R (_ :: _) _
    exact (SemSs_cons (SemS_assign (SemE_Subscript (semItem (fun _ _ => rfl)) (SemE_locS hF .head) (SemE_locS hF (.tail (.tail .head)))) (SemG_locS hF (.tail (.tail (.tail .head)))) (fun _ _ => rfl) (fun _ => rfl) (fun _ => rfl)) (SemSs_cons (SemS_while (SemB_cmp semGt semTru (SemE_locS hF (.tail (.tail .head))) (SemE_locS hF (.tail .head)) rfl) (SemSs_cons (SemS_assign (SemE_BinOp semShr1 (SemE_BinOp semSub (SemE_locS hF (.tail (.tail .head))) (SemE_int _ _ _)) (SemE_int _ _ _)) (SemG_locS hF (.tail (.tail (.tail (.tail .head))))) (fun _ _ => rfl) (fun _ => rfl) (fun _ => rfl)) (SemSs_cons (SemS_assign (SemE_Subscript (semItem (fun _ _ => rfl)) (SemE_locS hF .head) (SemE_locS hF (.tail (.tail (.tail (.tail .head)))))) (SemG_locS hF (.tail (.tail (.tail (.tail (.tail .head)))))) (fun _ _ => rfl) (fun _ => rfl) (fun _ => rfl)) (SemSs_cons (SemS_if (SemB_cmp semLt semTru (SemE_locS hF (.tail (.tail (.tail .head)))) (SemE_locS hF (.tail (.tail (.tail (.tail (.tail .head)))))) rfl) (SemSs_cons (SemS_assign (SemE_locS hF (.tail (.tail (.tail (.tail (.tail .head)))))) (SemG_item semSetItem (SemE_locS hF .head) (SemE_locS hF (.tail (.tail .head)))) (fun _ _ => rfl) (fun _ => rfl) (fun _ => rfl)) (SemSs_cons (SemS_assign (SemE_locS hF (.tail (.tail (.tail (.tail .head))))) (SemG_locS hF (.tail (.tail .head))) (fun _ _ => rfl) (fun _ => rfl) (fun _ => rfl)) (SemSs_one SemS_cont))) SemSs_nil) (SemSs_one SemS_break)))) SemSs_nil) (SemSs_one (SemS_assign (SemE_locS hF (.tail (.tail (.tail .head)))) (SemG_item semSetItem (SemE_locS hF .head) (SemE_locS hF (.tail (.tail .head)))) (fun _ _ => rfl) (fun _ => rfl) (fun _ => rfl)))))
noncomputable abbrev fcSU : FC := ⟨[(Str.ofString "heap", .loc), (Str.ofString "pos", .loc), (Str.ofString "endpos", .loc), (Str.ofString "startpos", .loc), (Str.ofString "newitem", .loc), (Str.ofString "childpos", .loc), (Str.ofString "rightpos", .loc)], [(Str.ofString "heap", .local), (Str.ofString "pos", .local), (Str.ofString "endpos", .local), (Str.ofString "startpos", .local), (Str.ofString "newitem", .local), (Str.ofString "childpos", .local), (Str.ofString "rightpos", .local), (Str.ofString "len", .globalImplicit), (Str.ofString "_siftdown", .globalImplicit)]⟩
noncomputable def dSU (B : Bs) (R : Rm) (hB : Tp B) (hF : FcOk fcSU) (c__siftdown : SemC B R (.ref 49) spSD) : { d : SD // SemSs B fcSU R (bodyOf B 56) d } := by
  apply Subtype.mk
  case property =>
    change SemSs B _ R (_ :: _) _
    exact (SemSs_cons (SemS_assign (SemE_lenS hB (NameAt.look (.tail (.tail (.tail (.tail (.tail (.tail (.tail .head))))))) hF.nd) rfl (SemAs_cons rfl (SemE_locS hF .head) SemAs_nil)) (SemG_locS hF (.tail (.tail .head))) (fun _ _ => rfl) (fun _ => rfl) (fun _ => rfl)) (SemSs_cons (SemS_assign (SemE_locS hF (.tail .head)) (SemG_locS hF (.tail (.tail (.tail .head)))) (fun _ _ => rfl) (fun _ => rfl) (fun _ => rfl)) (SemSs_cons (SemS_assign (SemE_Subscript (semItem (fun _ _ => rfl)) (SemE_locS hF .head) (SemE_locS hF (.tail .head))) (SemG_locS hF (.tail (.tail (.tail (.tail .head))))) (fun _ _ => rfl) (fun _ => rfl) (fun _ => rfl)) (SemSs_cons (SemS_assign (SemE_BinOp semAdd (SemE_BinOp semMul (SemE_int _ _ _) (SemE_locS hF (.tail .head))) (SemE_int _ _ _)) (SemG_locS hF (.tail (.tail (.tail (.tail (.tail .head)))))) (fun _ _ => rfl) (fun _ => rfl) (fun _ => rfl)) (SemSs_cons (SemS_while (SemB_cmp semLt semTru (SemE_locS hF (.tail (.tail (.tail (.tail (.tail .head)))))) (SemE_locS hF (.tail (.tail .head))) rfl) (SemSs_cons (SemS_assign (SemE_BinOp semAdd (SemE_locS hF (.tail (.tail (.tail (.tail (.tail .head)))))) (SemE_int _ _ _)) (SemG_locS hF (.tail (.tail (.tail (.tail (.tail (.tail .head))))))) (fun _ _ => rfl) (fun _ => rfl) (fun _ => rfl)) (SemSs_cons (SemS_if (SemB_bool (SemBs_consA (SemB_cmp semLt semTru (SemE_locS hF (.tail (.tail (.tail (.tail (.tail (.tail .head))))))) (SemE_locS hF (.tail (.tail .head))) rfl) (SemBs_consA (SemB_not (SemB_cmp semLt semTru (SemE_Subscript (semItem (fun _ _ => rfl)) (SemE_locS hF .head) (SemE_locS hF (.tail (.tail (.tail (.tail (.tail .head))))))) (SemE_Subscript (semItem (fun _ _ => rfl)) (SemE_locS hF .head) (SemE_locS hF (.tail (.tail (.tail (.tail (.tail (.tail .head)))))))) rfl)) SemBs_nilA))) (SemSs_one (SemS_assign (SemE_locS hF (.tail (.tail (.tail (.tail (.tail (.tail .head))))))) (SemG_locS hF (.tail (.tail (.tail (.tail (.tail .head)))))) (fun _ _ => rfl) (fun _ => rfl) (fun _ => rfl))) SemSs_nil) (SemSs_cons (SemS_assign (SemE_Subscript (semItem (fun _ _ => rfl)) (SemE_locS hF .head) (SemE_locS hF (.tail (.tail (.tail (.tail (.tail .head))))))) (SemG_item semSetItem (SemE_locS hF .head) (SemE_locS hF (.tail .head))) (fun _ _ => rfl) (fun _ => rfl) (fun _ => rfl)) (SemSs_cons (SemS_assign (SemE_locS hF (.tail (.tail (.tail (.tail (.tail .head)))))) (SemG_locS hF (.tail .head)) (fun _ _ => rfl) (fun _ => rfl) (fun _ => rfl)) (SemSs_one (SemS_assign (SemE_BinOp semAdd (SemE_BinOp semMul (SemE_int _ _ _) (SemE_locS hF (.tail .head))) (SemE_int _ _ _)) (SemG_locS hF (.tail (.tail (.tail (.tail (.tail .head)))))) (fun _ _ => rfl) (fun _ => rfl) (fun _ => rfl))))))) SemSs_nil) (SemSs_cons (SemS_assign (SemE_locS hF (.tail (.tail (.tail (.tail .head))))) (SemG_item semSetItem (SemE_locS hF .head) (SemE_locS hF (.tail .head))) (fun _ _ => rfl) (fun _ => rfl) (fun _ => rfl)) (SemSs_one (SemS_expr (SemE_fnS hB c__siftdown (by kernel_rfl) (by kernel_rfl) (NameAt.look (.tail (.tail (.tail (.tail (.tail (.tail (.tail (.tail .head)))))))) hF.nd) (by kernel_rfl) rfl (SemAs_cons rfl (SemE_locS hF .head) (SemAs_cons rfl (SemE_locS hF (.tail (.tail (.tail .head)))) (SemAs_cons rfl (SemE_locS hF (.tail .head)) SemAs_nil)))) (fun _ => rfl)))))))))
noncomputable abbrev fcPush : FC := ⟨[(Str.ofString "heap", .loc), (Str.ofString "item", .loc)], [(Str.ofString "heap", .local), (Str.ofString "item", .local), (Str.ofString "_siftdown", .globalImplicit), (Str.ofString "len", .globalImplicit)]⟩
noncomputable def dPush (B : Bs) (R : Rm) (hB : Tp B) (hF : FcOk fcPush) (c__siftdown : SemC B R (.ref 49) spSD) : { d : SD // SemSs B fcPush R (bodyOf B 28) d } := by
  apply Subtype.mk
  case property =>
    change SemSs B _ R (_ :: _) _
    exact (SemSs_cons (SemS_expr (SemE_mappend (fun _ => rfl) rfl rfl (by decide) (SemE_locS hF .head) (SemAs_cons rfl (SemE_locS hF (.tail .head)) SemAs_nil)) (fun _ => rfl)) (SemSs_one (SemS_expr (SemE_fnS hB c__siftdown (by kernel_rfl) (by kernel_rfl) (NameAt.look (.tail (.tail .head)) hF.nd) (by kernel_rfl) rfl (SemAs_cons rfl (SemE_locS hF .head) (SemAs_cons rfl (SemE_int _ _ _) (SemAs_cons rfl (SemE_BinOp semSub (SemE_lenS hB (NameAt.look (.tail (.tail (.tail .head))) hF.nd) rfl (SemAs_cons rfl (SemE_locS hF .head) SemAs_nil)) (SemE_int _ _ _)) SemAs_nil)))) (fun _ => rfl))))
noncomputable abbrev fcPop : FC := ⟨[(Str.ofString "heap", .loc), (Str.ofString "lastelt", .loc), (Str.ofString "returnitem", .loc)], [(Str.ofString "heap", .local), (Str.ofString "lastelt", .local), (Str.ofString "returnitem", .local), (Str.ofString "_siftup", .globalImplicit)]⟩
noncomputable def dPop (B : Bs) (R : Rm) (hB : Tp B) (hF : FcOk fcPop) (c__siftup : SemC B R (.ref 56) spSU) : { d : SD // SemSs B fcPop R (bodyOf B 35) d } := by
  apply Subtype.mk
  case property =>
    change SemSs B _ R (_ :: _) _
    exact (SemSs_cons (SemS_assign (SemE_mpop (fun _ => rfl) rfl rfl (by decide) (SemE_locS hF .head) SemAs_nil) (SemG_locS hF (.tail .head)) (fun _ _ => rfl) (fun _ => rfl) (fun _ => rfl)) (SemSs_cons (SemS_if (SemB_val semTru (SemE_locS hF .head) (fun _ => rfl)) (SemSs_cons (SemS_assign (SemE_Subscript (semItem (fun _ _ => rfl)) (SemE_locS hF .head) (SemE_int _ _ _)) (SemG_locS hF (.tail (.tail .head))) (fun _ _ => rfl) (fun _ => rfl) (fun _ => rfl)) (SemSs_cons (SemS_assign (SemE_locS hF (.tail .head)) (SemG_item semSetItem (SemE_locS hF .head) (SemE_int _ _ _)) (fun _ _ => rfl) (fun _ => rfl) (fun _ => rfl)) (SemSs_cons (SemS_expr (SemE_fnS hB c__siftup (by kernel_rfl) (by kernel_rfl) (NameAt.look (.tail (.tail (.tail .head))) hF.nd) (by kernel_rfl) rfl (SemAs_cons rfl (SemE_locS hF .head) (SemAs_cons rfl (SemE_int _ _ _) SemAs_nil))) (fun _ => rfl)) (SemSs_one (SemS_ret (SemE_locS hF (.tail (.tail .head)))))))) SemSs_nil) (SemSs_one (SemS_ret (SemE_locS hF (.tail .head))))))
noncomputable abbrev fcPP : FC := ⟨[(Str.ofString "heap", .loc), (Str.ofString "item", .loc)], [(Str.ofString "heap", .local), (Str.ofString "item", .local), (Str.ofString "_siftup", .globalImplicit)]⟩
noncomputable def dPP (B : Bs) (R : Rm) (hB : Tp B) (hF : FcOk fcPP) (hR : R.he = none) (c__siftup : SemC B R (.ref 56) spSU) : { d : SD // SemSs B fcPP R (bodyOf B 42) d } := by
  apply Subtype.mk
  case property =>
    change SemSs B _ R (_ :: _) _
    exact (SemSs_cons (SemS_if (SemB_bool (SemBs_consA (SemB_val semTru (SemE_locS hF .head) (fun _ => rfl)) (SemBs_consA (SemB_cmp semLt semTru (SemE_Subscript (semItem (fun _ _ => rfl)) (SemE_locS hF .head) (SemE_int _ _ _)) (SemE_locS hF (.tail .head)) rfl) SemBs_nilA))) (SemSs_cons (SemS_assign (SemE_tuple (SemAs_cons rfl (SemE_Subscript (semItem (fun _ _ => rfl)) (SemE_locS hF .head) (SemE_int _ _ _)) (SemAs_cons rfl (SemE_locS hF (.tail .head)) SemAs_nil))) (SemG_tupS hR (.cons rfl (SemG_locS hF (.tail .head)) (.cons rfl (SemG_item semSetItem (SemE_locS hF .head) (SemE_int _ _ _)) .nil))) (fun _ _ => rfl) (fun env => swapped_mixed env) (fun _ => rfl)) (SemSs_one (SemS_expr (SemE_fnS hB c__siftup (by kernel_rfl) (by kernel_rfl) (NameAt.look (.tail (.tail .head)) hF.nd) (by kernel_rfl) rfl (SemAs_cons rfl (SemE_locS hF .head) (SemAs_cons rfl (SemE_int _ _ _) SemAs_nil))) (fun _ => rfl)))) SemSs_nil) (SemSs_one (SemS_ret (SemE_locS hF (.tail .head)))))
end Mine
end
-- L2
namespace Mine
theorem bind3 {fd : FuncData} {x y z : Str} (h : ∀ a b c : Value, bindArgs fd ⟨[a, b, c], []⟩ = pure [(x, a), (y, b), (z, c)]) : ∀ vs : List Value, vs.length = 3 → bindArgs fd ⟨vs, []⟩ = pure ([x, y, z].zip vs)
  | [a, b, c], _ => h a b c
theorem mulOk (x : Int) : IntMulOk 2 x := IntMulOk.of_left (by decide)
theorem ct49 (B : Bs) (hB : Tp B) (n : Nat) (he : Option (Addr × AX)) : SemC B ⟨n + 1, he⟩ (.ref 49) spSD := by
  refine spec_pl (R' := ⟨n, he⟩) (ps := [(Str.ofString "heap", .loc), (Str.ofString "startpos", .loc), (Str.ofString "pos", .loc)]) (ls := [(Str.ofString "newitem", .loc), (Str.ofString "parentpos", .loc), (Str.ofString "parent", .loc)]) (fk_of hB (by kernel_rfl)) (by kernel_rfl) rfl rfl (dSD B ⟨n, he⟩ hB (okF (by kernel_rfl))).2 (by decide) (by kernel_rfl) (bind3 fun a b c => by kernel_rfl) ?_
  rintro _ σ Q X ⟨p, k, xs, rfl, e, hl, h0, hk, hX, hq⟩
  refine ⟨rfl, ?_⟩
  dsimp only [dSD]
  dsimp only [SSeq, SAsg, SAsg2, Op2, Op1, Var, Con, lget, lset, TSet, TItem, TAttr, TTup, TGo, Tst, e_tru, SIf, SNext, SBrk, SCont, SDo, SRet, BNot, BAll, BAny, e_add, e_iadd, e_sub, e_lt, e_cmp, List.map, List.replicate, List.cons_append, List.nil_append, List.length_cons, List.length_nil, Cal, Evs, Mth, ETup, EList, EDict0, ENamed, EAnd, EOr, SFor, ESlice, EStar, EWrap, STry, SDel, SAugA, EJoin, EJs, SRaise, EArgV]
  refine item_list e (by rw [prs_length]; omega) (prs_idx h0 hk) ?_
  refine while_rule (fun n st => Ex4 fun (j : Int) (ys : List PP) (u v : Option AV) => An7 (st = ⟨[some (.ptr p), some (.int 0), some (.int j), some (prv (gp xs k.toNat)), u, v], upd σ p (.list (prs ys))⟩) (0 ≤ j) (j.toNat ≤ n) (j.toNat < ys.length) (ys.length = xs.length) (HpX (ys.set j.toNat (gp xs k.toNat)) j.toNat) ((ys.set j.toNat (gp xs k.toNat)).Perm xs))
    k.toNat _ ⟨k, xs, none, none, by rw [upd_same e], h0, Nat.le_refl _, hk, rfl, ?_, ?_⟩ ?_
  · rw [gp_eq hk]; simpa using hX
  · rw [gp_eq hk]; simp
  · rintro W n _ ⟨j, ys, u, v, rfl, j0, jn, jl, yl, yX, yp⟩ hW
    dsimp only [SSeq, SAsg, SAsg2, Op2, Op1, Var, Con, lget, lset, TSet, TItem, TAttr, TTup, TGo, Tst, e_tru, SIf, SNext, SBrk, SCont, SDo, SRet, BNot, BAll, BAny, e_add, e_iadd, e_sub, e_lt, e_cmp, List.map, List.replicate, List.cons_append, List.nil_append, List.length_cons, List.length_nil, Cal, Evs, Mth, ETup, EList, EDict0, ENamed, EAnd, EOr, SFor, ESlice, EStar, EWrap, STry, SDel, SAugA, EJoin, EJs, SRaise, EArgV]
    refine ⟨fun t => ?_, fun f => ?_⟩
    · have t := of_decide_eq_true t
      have hj2 : ((j - 1) / 2).toNat = (j.toNat - 1) / 2 := by omega
      refine shr_ok (by omega) ?_
      refine item_list (upd_self _ _ _) (by rw [prs_length]; omega) (prs_idx (by omega) (by omega)) ?_
      refine lt_prv ?_
      refine ⟨fun t2 => ?_, fun f2 => ?_⟩
      · have t2 := plD_t.mp t2
        rw [hj2] at t2
        refine set_list (upd_self _ _ _) (by rw [prs_length]; omega) (by omega) (by rw [prs_length]; omega) ?_
        rw [prs_set, upd_upd]
        refine hW (n - 1) _ (by omega) ⟨_, _, _, _, rfl, by omega, by omega, ?_, ?_, ?_, ?_⟩
        · simp; omega
        · simpa using yl
        · rw [hj2]; exact HpX.step jl (by omega) yX t2
        · rw [hj2]; exact (swap_perm ys j.toNat ((j.toNat - 1) / 2) _ jl (by omega) (by omega)).trans yp
      · have f2 := plD_f.mp f2
        rw [hj2] at f2
        refine set_list (upd_self _ _ _) (by rw [prs_length]; omega) (by omega) (by rw [prs_length]; omega) ?_
        rw [prs_set, upd_upd]
        refine ⟨_, Sub.refl _, hq _ yp (yX.done ?_)⟩
        rw [gp_set _ _ _ _ jl, gp_set _ _ _ _ jl, if_pos rfl, if_neg (by omega)]
        exact f2
    · have f := of_decide_eq_false f
      refine set_list (upd_self _ _ _) (by rw [prs_length]; omega) (by omega) (by rw [prs_length]; omega) ?_
      rw [prs_set, upd_upd]
      refine ⟨_, Sub.refl _, hq _ yp (HpX.zero ?_)⟩
      have : j.toNat = 0 := by omega
      rwa [this] at yX ⊢
theorem ct56 (B : Bs) (hB : Tp B) (n : Nat) (he : Option (Addr × AX)) : SemC B ⟨n + 2, he⟩ (.ref 56) spSU := by
  refine spec_pl (R' := ⟨n + 1, he⟩) (ps := [(Str.ofString "heap", .loc), (Str.ofString "pos", .loc)]) (ls := [(Str.ofString "endpos", .loc), (Str.ofString "startpos", .loc), (Str.ofString "newitem", .loc), (Str.ofString "childpos", .loc), (Str.ofString "rightpos", .loc)]) (fk_of hB (by kernel_rfl)) (by kernel_rfl) rfl rfl (dSU B ⟨n + 1, he⟩ hB (okF (by kernel_rfl)) (ct49 B hB n he)).2 (by decide) (by kernel_rfl) (bind2 fun a b => by kernel_rfl) ?_
  rintro _ σ Q X ⟨p, xs, rfl, e, hlen, hne, hU, hq⟩
  have hpos : 0 < xs.length := List.length_pos_iff.mpr hne
  refine ⟨rfl, ?_⟩
  dsimp only [dSU]
  dsimp only [SSeq, SAsg, SAsg2, Op2, Op1, Var, Con, lget, lset, TSet, TItem, TAttr, TTup, TGo, Tst, e_tru, SIf, SNext, SBrk, SCont, SDo, SRet, BNot, BAll, BAny, e_add, e_iadd, e_sub, e_lt, e_cmp, List.map, List.replicate, List.cons_append, List.nil_append, List.length_cons, List.length_nil, Cal, Evs, Mth, ETup, EList, EDict0, ENamed, EAnd, EOr, SFor, ESlice, EStar, EWrap, STry, SDel, SAugA, EJoin, EJs, SRaise, EArgV]
  refine len_list e (by rw [prs_length]; omega) ?_
  refine item_list e (by rw [prs_length]; omega) (prs_idx (Int.le_refl 0) hpos) ?_
  refine ⟨mulOk _, ?_⟩
  refine while_rule (fun n st => Ex3 fun (k : Nat) (ys : List PP) (u : Option AV) => An6 (st = ⟨[some (.ptr p), some (.int k), some (.int xs.length), some (.int 0), some (prv (gp xs 0)), some (.int (2 * k + 1)), u], upd σ p (.list (prs ys))⟩) (xs.length - k ≤ n) (k < ys.length) (ys.length = xs.length) (UpI ys k) ((ys.set k (gp xs 0)).Perm xs))
    xs.length _ ⟨0, xs, none, by simp [upd_same e, prs_length], by omega, hpos, rfl, hU, by rw [gp_eq hpos]; simp⟩ ?_
  rintro W n _ ⟨k, ys, u, rfl, hn, hk, hy, hUy, hp⟩ hW
  dsimp only [SSeq, SAsg, SAsg2, Op2, Op1, Var, Con, lget, lset, TSet, TItem, TAttr, TTup, TGo, Tst, e_tru, SIf, SNext, SBrk, SCont, SDo, SRet, BNot, BAll, BAny, e_add, e_iadd, e_sub, e_lt, e_cmp, List.map, List.replicate, List.cons_append, List.nil_append, List.length_cons, List.length_nil, Cal, Evs, Mth, ETup, EList, EDict0, ENamed, EAnd, EOr, SFor, ESlice, EStar, EWrap, STry, SDel, SAugA, EJoin, EJs, SRaise, EArgV]
  have upto : ∀ c : Nat, (c = 2 * k + 1 ∨ c = 2 * k + 2) → c < ys.length → (∀ o, o < ys.length → o = 2 * k + 1 ∨ o = 2 * k + 2 → ¬ PL (gp ys o) (gp ys c)) → ∀ (u' : Option AV),
      W ⟨[some (.ptr p), some (.int c), some (.int xs.length), some (.int 0), some (prv (gp xs 0)), some (.int (2 * c + 1)), u'], upd σ p (.list (prs (ys.set k (gp ys c))))⟩ := by
    intro c hc hcl ho u'
    refine hW (n - 1) _ (by omega) ⟨c, _, u', rfl, by omega, by simpa using hcl, by simpa using hy, UpI.step hcl hc hUy ho, ?_⟩
    exact (swap_perm ys k c _ hk hcl (by omega)).trans hp
  refine ⟨fun t => ?_, fun f => ?_⟩
  · have t := of_decide_eq_true t
    have put : ∀ c : Nat, (c = 2 * k + 1 ∨ c = 2 * k + 2) → c < ys.length → (∀ o, o < ys.length → o = 2 * k + 1 ∨ o = 2 * k + 2 → ¬ PL (gp ys o) (gp ys c)) → ∀ (u' : Option AV),
        oItem (.ptr p) (.int c) (upd σ p (.list (prs ys))) (fun r σ => oSetItem (.ptr p) (.int k) r σ fun σ => oMul (.int 2) (.int c) σ (fun r σ => oAddX r (.int 1) σ (fun r σ => W ⟨[some (.ptr p), some (.int c), some (.int xs.length), some (.int 0), some (prv (gp xs 0)), some r, u'], σ⟩) (fun x σ => ∃ σ', Sub σ' σ ∧ X x σ')) (fun x σ => ∃ σ', Sub σ' σ ∧ X x σ')) (fun x σ => ∃ σ', Sub σ' σ ∧ X x σ') := by
      intro c hc hcl ho u'
      refine item_list (upd_self _ _ _) (by rw [prs_length]; omega) (prs_idx (by omega) (by omega)) ?_
      refine set_list (upd_self _ _ _) (by rw [prs_length]; omega) (by omega) (by rw [prs_length]; omega) ?_
      rw [prs_set, upd_upd]
      refine ⟨mulOk _, ?_⟩
      have := upto c hc hcl ho u'
      simpa [e_add] using this
    have h2 : ((2 * k + 2 : Nat) : Int) = 2 * (k : Int) + 1 + 1 := by omega
    have h1 : ((2 * k + 1 : Nat) : Int) = 2 * (k : Int) + 1 := by omega
    have one := put (2 * k + 1)
    have two := put (2 * k + 2)
    rw [h1] at one
    rw [h2] at two
    have id1 : idx (prs ys) (2 * (k : Int) + 1) = some (prv (gp ys (2 * k + 1))) := by
      have := prs_idx (xs := ys) (i := 2 * (k : Int) + 1) (by omega) (by omega)
      rwa [show (2 * (k : Int) + 1).toNat = 2 * k + 1 by omega] at this
    cases q : decide (2 * (k : Int) + 1 + 1 < xs.length) with
    | false =>
      have q := of_decide_eq_false q
      refine ⟨fun z => (nomatch z), fun _ => one (.inl rfl) (by omega) (fun o ho hoo => ?_) _⟩
      have : o = 2 * k + 1 := by omega
      subst this; unfold PL; omega
    | true =>
      have q := of_decide_eq_true q
      have id2 : idx (prs ys) (2 * (k : Int) + 1 + 1) = some (prv (gp ys (2 * k + 2))) := by
        have := prs_idx (xs := ys) (i := 2 * (k : Int) + 1 + 1) (by omega) (by omega)
        rwa [show (2 * (k : Int) + 1 + 1).toNat = 2 * k + 2 by omega] at this
      refine item_list (upd_self _ _ _) (by rw [prs_length]; omega) id1 ?_
      refine item_list (upd_self _ _ _) (by rw [prs_length]; omega) id2 ?_
      refine lt_prv ?_
      rw [e_tru]
      cases q3 : plD (gp ys (2 * k + 1)) (gp ys (2 * k + 2)) with
      | true =>
        have q3 := plD_t.mp q3
        refine ⟨fun z => (nomatch z), fun _ => one (.inl rfl) (by omega) (fun o ho hoo => ?_) _⟩
        rcases hoo with rfl | rfl
        · unfold PL; omega
        · unfold PL at *; omega
      | false =>
        have q3 := plD_f.mp q3
        refine ⟨fun _ => two (.inr rfl) (by omega) (fun o ho hoo => ?_) _, fun z => (nomatch z)⟩
        rcases hoo with rfl | rfl
        · exact q3
        · unfold PL; omega
  · have f := of_decide_eq_false f
    refine set_list (upd_self _ _ _) (by rw [prs_length]; omega) (by omega) (by rw [prs_length]; omega) ?_
    rw [prs_set, upd_upd]
    refine ⟨p, _, _, rfl, upd_self _ _ _, by simp; omega, by omega, by simp; omega, ?_, fun zs hz hh => ?_⟩
    · simpa using UpI.leaf hk (by omega) hUy
    · rw [upd_upd]
      exact ⟨_, Sub.refl _, hq zs (hz.trans (by simpa using hp)) hh⟩
theorem ct28 (B : Bs) (hB : Tp B) (n : Nat) (he : Option (Addr × AX)) : SemC B ⟨n + 2, he⟩ (.ref 28) spPush := by
  refine spec_pl (R' := ⟨n + 1, he⟩) (ps := [(Str.ofString "heap", .loc), (Str.ofString "item", .loc)]) (ls := []) (fk_of hB (by kernel_rfl)) (by kernel_rfl) rfl rfl (dPush B ⟨n + 1, he⟩ hB (okF (by kernel_rfl)) (ct49 B hB n he)).2 (by decide) (by kernel_rfl) (bind2 fun a b => by kernel_rfl) ?_
  rintro _ σ Q X ⟨p, xs, a, rfl, e, hl, hH, hq⟩
  refine ⟨rfl, ?_⟩
  dsimp only [dPush]
  dsimp only [SSeq, SAsg, SAsg2, Op2, Op1, Var, Con, lget, lset, TSet, TItem, TAttr, TTup, TGo, Tst, e_tru, SIf, SNext, SBrk, SCont, SDo, SRet, BNot, BAll, BAny, e_add, e_iadd, e_sub, e_lt, e_cmp, List.map, List.replicate, List.cons_append, List.nil_append, List.length_cons, List.length_nil, Cal, Evs, Mth, ETup, EList, EDict0, ENamed, EAnd, EOr, SFor, ESlice, EStar, EWrap, STry, SDel, SAugA, EJoin, EJs, SRaise, EArgV]
  refine ⟨⟨p, _, rfl, e⟩, append_list e (by rw [prs_length]; omega) ?_⟩
  rw [prs_append]
  refine len_list (upd_self _ _ _) (by rw [prs_length]; simp; omega) ?_
  simp only [e_sub]
  refine ⟨p, _, _, rfl, upd_self _ _ _, by simp; omega, by rw [prs_length]; simp, by rw [prs_length]; simp, ?_, fun ys hp hh => ?_⟩
  · have : ((prs (xs ++ [a])).length - 1 : Int).toNat = xs.length := by rw [prs_length]; simp
    rw [this]; exact hH.push
  · rw [upd_upd]
    exact ⟨_, Sub.refl _, hq ys (hp.trans (List.perm_append_singleton a xs)) hh⟩
end Mine
-- L3
namespace Mine
theorem ct35 (B : Bs) (hB : Tp B) (n : Nat) (he : Option (Addr × AX)) : SemC B ⟨n + 3, he⟩ (.ref 35) spPop := by
  refine spec_pl (R' := ⟨n + 2, he⟩) (ps := [(Str.ofString "heap", .loc)]) (ls := [(Str.ofString "lastelt", .loc), (Str.ofString "returnitem", .loc)]) (fk_of hB (by kernel_rfl)) (by kernel_rfl) rfl rfl (dPop B ⟨n + 2, he⟩ hB (okF (by kernel_rfl)) (ct56 B hB n he)).2 (by decide) (by kernel_rfl) (bind1 fun a => by kernel_rfl) ?_
  rintro _ σ Q X ⟨p, xs, rfl, e, hl, hne, hH, hq⟩
  refine ⟨rfl, ?_⟩
  dsimp only [dPop]
  dsimp only [SSeq, SAsg, SAsg2, Op2, Op1, Var, Con, lget, lset, TSet, TItem, TAttr, TTup, TGo, Tst, e_tru, SIf, SNext, SBrk, SCont, SDo, SRet, BNot, BAll, BAny, e_add, e_iadd, e_sub, e_lt, e_cmp, List.map, List.replicate, List.cons_append, List.nil_append, List.length_cons, List.length_nil, Cal, Evs, Mth, ETup, EList, EDict0, ENamed, EAnd, EOr, SFor, ESlice, EStar, EWrap, STry, SDel, SAugA, EJoin, EJs, SRaise, EArgV]
  obtain ⟨zs, v, rfl⟩ : ∃ zs v, xs = zs ++ [v] := ⟨_, _, (List.dropLast_concat_getLast hne).symm⟩
  have hlz : zs.length < 800 := by rw [List.length_append] at hl; exact Nat.lt_of_le_of_lt (Nat.le_add_right _ _) hl
  refine ⟨⟨_, _, rfl, e⟩, ⟨prs zs, prv v, ⟨by rw [prs_append]; exact e, by rw [prs_length]; omega⟩, ?_⟩⟩
  refine ⟨_, ⟨upd_self _ _ _, by rw [prs_length]; omega⟩, ?_⟩
  cases zs with
  | nil => exact ⟨nofun, fun _ => ⟨_, Sub.refl _, hq v [] (.refl _) (fun x hx => by cases List.mem_singleton.mp hx; exact pl_irr v) Hp.nil⟩⟩
  | cons z zs =>
    refine ⟨fun _ => ?_, nofun⟩
    refine item_list (upd_self _ _ _) (by rw [prs_length]; omega) (prs_idx (Int.le_refl 0) (Nat.succ_pos _)) ?_
    refine set_list (upd_self _ _ _) (by rw [prs_length]; omega) (Int.le_refl 0) (by rw [prs_length]; simp) ?_
    rw [prs_set, upd_upd]
    refine ⟨p, (z :: zs).set 0 v, rfl, upd_self _ _ _, by rw [List.length_set]; omega, nofun, hH.init.root, fun ys hp hh => ⟨_, Sub.refl _, ?_⟩⟩
    rw [upd_upd]
    refine hq z ys ?_ (fun x hx => hH.minM hx) hh
    exact (hp.cons z).trans ((List.Perm.swap' v z (.refl zs)).trans (List.perm_append_singleton v (z :: zs)).symm)
theorem ct42 (B : Bs) (hB : Tp B) (n : Nat) : SemC B ⟨n + 3, none⟩ (.ref 42) spPP := by
  refine spec_pl (R' := ⟨n + 2, none⟩) (ps := [(Str.ofString "heap", .loc), (Str.ofString "item", .loc)]) (ls := []) (fk_of hB (by kernel_rfl)) (by kernel_rfl) rfl rfl (dPP B ⟨n + 2, none⟩ hB (okF (by kernel_rfl)) rfl (ct56 B hB n none)).2 (by decide) (by kernel_rfl) (bind2 fun a b => by kernel_rfl) ?_
  rintro _ σ Q X ⟨p, xs, a, rfl, e, hl, hH, hq⟩
  refine ⟨rfl, ?_⟩
  dsimp only [dPP]
  dsimp only [SSeq, SAsg, SAsg2, Op2, Op1, Var, Con, lget, lset, TSet, TItem, TAttr, TTup, TGo, Tst, e_tru, SIf, SNext, SBrk, SCont, SDo, SRet, BNot, BAll, BAny, e_add, e_iadd, e_sub, e_lt, e_cmp, List.map, List.replicate, List.cons_append, List.nil_append, List.length_cons, List.length_nil, Cal, Evs, Mth, ETup, EList, EDict0, ENamed, EAnd, EOr, SFor, ESlice, EStar, EWrap, STry, SDel, SAugA, EJoin, EJs, SRaise, EArgV]
  refine ⟨_, ⟨e, by rw [prs_length]; omega⟩, ?_⟩
  cases xs with
  | nil => exact ⟨nofun, fun _ => ⟨_, Sub.refl _, by have := hq a [] (.refl _) (fun x hx => by cases List.mem_singleton.mp hx; exact pl_irr a) Hp.nil; rwa [upd_same e] at this⟩⟩
  | cons z zs =>
    refine item_list e (by rw [prs_length]; omega) (prs_idx (Int.le_refl 0) (Nat.succ_pos _)) ?_
    refine lt_prv ?_
    rw [e_tru]
    show match plD z a with | false => _ | true => _
    cases q : plD z a with
    | false =>
      refine ⟨nofun, fun _ => ⟨_, Sub.refl _, ?_⟩⟩
      have := hq a (z :: zs) (.refl _) (fun x hx => ?_) hH
      · rwa [upd_same e] at this
      · rcases List.mem_cons.mp hx with rfl | hx
        · exact pl_irr x
        · exact pl_le (hH.minM hx) (plD_f.mp q)
    | true =>
      refine ⟨fun _ => ?_, nofun⟩
      refine item_list e (by rw [prs_length]; omega) (prs_idx (Int.le_refl 0) (Nat.succ_pos _)) ⟨by decide, rfl, ?_⟩
      refine set_list e (by rw [prs_length]; omega) (Int.le_refl 0) (by rw [prs_length]; simp) ?_
      rw [prs_set]
      refine ⟨p, (z :: zs).set 0 a, rfl, upd_self _ _ _, by rw [List.length_set]; omega, nofun, hH.root, fun ys hp hh => ⟨_, Sub.refl _, ?_⟩⟩
      rw [upd_upd]
      refine hq z ys ((hp.cons z).trans (List.Perm.swap' a z (.refl zs))) (fun x hx => ?_) hh
      rcases List.mem_cons.mp hx with rfl | hx
      · exact pl_asy (plD_t.mp q)
      · exact hH.minM hx
end Mine
-- N3
namespace Mine
section
variable {prog : Program} {w : World} {A : Around} {E : Value → Shared → Prop} {s : Shared}
noncomputable def HndAt (A : Around) (c : Addr) (h : Heap) : Prop := A.handled = some (.ref c) ∧ ∃ oh vs, h.get? c = some oh ∧ oh.data = .fields vs ∧ vs[2]? = some .none
theorem HndAt.keep {c : Addr} {h h' : Heap} (H : HndAt A c h) (k : ∀ o, h.get? c = some o → h'.get? c = some o) : HndAt A c h' := by
  obtain ⟨h0, oh, vs, h1, h2, h3⟩ := H
  exact ⟨h0, oh, vs, k _ h1, h2, h3⟩
theorem raiseNew_some {α : Type} {e c : Addr} {oe : Obj} {ws : Array Value} {Q : α → Shared → Prop} (H : HndAt A c s.heap) (hne : c ≠ e) (h4 : s.heap.get? e = some oe) (h5 : oe.data = .fields ws) (h6 : 2 < ws.size)
    (hE : E (.ref e) { s with heap := s.heap.update e (Obj.mapFields fun x => x.setIfInBounds 2 (.ref c)) }) : wpAny (model prog w) A (raiseNew (α := α) (.ref e)) Q E s := by
  obtain ⟨hA, oh, vs, h1, h2, h3⟩ := H
  unfold raiseNew
  refine wpAny_bind (wpAny_handled ?_)
  rw [hA]
  show wpAny _ _ (if (Value.ref c != Value.ref e) = true then _ else _) _ _ s
  rw [if_pos (by simpa using hne)]
  refine wpAny_bind (wpAny_holding (wpAny_runValue (codeAny_builtin (b := Builtin.«proto.unchain») (entryFor_of_tree (by kernel_rfl)) ?_)))
  unfold Builtin.«proto.unchain»
  dsimp only
  refine wpAny_bind (wpAny_field h1 h2 h3 ?_)
  rw [if_pos (by rfl)]
  refine wpAny_pure ?_
  dsimp only
  unfold updateField
  refine wpAny_bind (wpAny_bind (wpAny_load h4 ?_))
  rw [h5]
  dsimp only
  rw [if_pos h6]
  exact wpAny_update h4 (wpAny_throw hE)
theorem stopIter_some {α : Type} {c : Addr} {Q : α → Shared → Prop} (H : HndAt A c s.heap)
    (hE : ∀ (h' : Heap) (e : Addr), (∀ b o, s.heap.get? b = some o → h'.get? b = some o) → Shared.TypeIs { s with heap := h' } (.ref e) "StopIteration" → E (.ref e) { s with heap := h' }) : wpAny (model prog w) A (Builtin.SmallTypes.stopIteration (α := α)) Q E s := by
  unfold Builtin.SmallTypes.stopIteration
  refine wpAny_bind ?_
  simp only [newExc, newTuple]
  refine wpAny_bind (wpAny_newObj_type ?_ (by size_fits))
  refine wpAny_bind (m := firstArgMember _ _) (wpAny_of_eq (a := Value.none) (by first | rfl | (simp only [firstArgMember]; rfl)) ?_)
  refine wpAny_newObj_type ?_ (by size_fits)
  dsimp only
  generalize hH : s.heap.push { cls := .type "tuple", dict := none, data := .seq ([] : List Value).toArray } = H1
  have k1 : ∀ b o, s.heap.get? b = some o → H1.get? b = some o := fun b o e => hH ▸ Heap.get?_push_of_some _ e
  have hlt : ∀ b o, s.heap.get? b = some o → b ≠ H1.objs.size := fun b o e => Nat.ne_of_lt (Heap.lt_size (k1 b o e))
  obtain ⟨_, oh, vs, hc, _⟩ := id H
  refine raiseNew_some (H.keep fun o e => Heap.get?_push_of_some _ (k1 _ _ e)) (hlt _ _ hc) (Heap.get?_push_size _ rfl) rfl (by simp [ownMembersOf]) ?_
  refine hE _ _ (fun b o e => ?_) ?_
  · exact Heap.get?_update_of_ne _ (hlt b o e).symm (Heap.get?_push_of_some _ (k1 b o e))
  · exact ⟨_, Heap.get?_update_self _ (Heap.get?_push_size _ rfl) rfl, rfl⟩
theorem stopEnd {α : Type} {c : Addr} {s₁ : Shared} {Q : Option Value → Shared → Prop} {Q₀ : α → Shared → Prop} (H : HndAt A.in1 c s₁.heap)
    (hQ : ∀ h', (∀ b o, s₁.heap.get? b = some o → h'.get? b = some o) → Q none { s₁ with heap := h' }) :
    wpAny (model prog w) A.in1 (Builtin.SmallTypes.stopIteration (α := α)) Q₀ (fun e s' => wpAny (model prog w) A (do if ← isInstance e (.type "StopIteration") then pure none else throw e) Q E s') s₁ := by
  refine stopIter_some H fun h' e k hT => ?_
  exact wpAny_bind (wpAny_isInstance (T := "StopIteration") (b := true) hT isSubtype_stop (wpAny_pure (hQ h' k)))
theorem next_range_endH {it c : Addr} {x left step : Int} {Q : Option Value → Shared → Prop} (H : HndAt A.in1 c s.heap) (hit : IsRangeIter s.heap it x left step) (hleft : left ≤ 0)
    (hQ : ∀ h', Heap.ExtBut it s.heap h' → Q none { s with heap := h' }) : wpAny (model prog w) A (pyNext (.ref it)) Q E s := by
  have hT : s.TypeIs (.ref it) "range_iterator" := ⟨_, hit, rfl⟩
  unfold pyNext
  refine wpAny_bind (wpAny_attempt (wpAny_callSpecial?_slot (name := Str.ofString "__next__") hT F.slot_range_iterator_next
    (wpAny_call_entry F.slot_range_iterator_next hT F.entry_range_iterator_next ?_ (F.args_range_iterator_next_1 _))))
  show wpAny _ _ (field (.ref it) 0 >>= _) _ _ s
  refine wpAny_bind (wpAny_field hit rfl (x := rawInt x) rfl ?_)
  show wpAny _ _ (field (.ref it) 1 >>= _) _ _ s
  refine wpAny_bind (wpAny_field hit rfl (x := rawInt left) rfl ?_)
  show wpAny _ _ (field (.ref it) 2 >>= _) _ _ s
  refine wpAny_bind (wpAny_field hit rfl (x := rawInt step) rfl ?_)
  show wpAny _ _ (if left ≤ 0 then _ else _) _ _ s
  rw [if_pos hleft]
  exact wpAny_bind (wpAny_rule (wpAny_bind (stopEnd H fun h' k => hQ h' fun b o _ e => k b o e)))
theorem next_list_endH {it l c : Addr} {i : Nat} {items : Array Value} {Q : Option Value → Shared → Prop} (H : HndAt A.in1 c s.heap) (hci : c ≠ it)
    (hit : s.heap.IsListIter it l i) (hl : s.heap.IsList l items) (hx : items[i]? = none)
    (hQ : ∀ h', Heap.ExtBut it s.heap h' → Q none { s with heap := h' }) : wpAny (model prog w) A (pyNext (.ref it)) Q E s := by
  obtain ⟨o, ho, hc, hd⟩ := id hit
  obtain ⟨ol, hol, _, nl, hdl⟩ := hl
  unfold pyNext
  refine wpAny_bind (wpAny_attempt (wpAny_callSpecial?_slot (name := Str.ofString "__next__") hit.typeIs slot_listiter_next
    (wpAny_call_entry slot_listiter_next hit.typeIs entry_listiter_next ?_ (args_listiter_next _))))
  show wpAny _ _ (field (.ref it) 0 >>= _) _ _ s
  refine wpAny_bind (wpAny_field ho hd (x := .ref l) rfl ?_)
  show wpAny _ _ (if (Value.ref l == Value.none) = true then _ else _) _ _ s
  rw [if_neg (show ¬ ((Value.ref l == Value.none) = true) from Bool.false_ne_true)]
  show wpAny _ _ (field (.ref it) 1 >>= _) _ _ s
  refine wpAny_bind (wpAny_field ho hd (x := .int i 0) rfl ?_)
  show wpAny _ _ (seqItems? (.ref l) >>= _) _ _ s
  refine wpAny_bind (wpAny_seqItems hol hdl ?_)
  simp only [Int.toNat_natCast, hx]
  have kk : ∀ (f : Obj → Obj) (b : Addr) (o : Obj), it ≠ b → s.heap.get? b = some o → (s.heap.update it f).get? b = some o := fun f b o => Heap.get?_update_of_ne f
  refine wpAny_bind (wpAny_rule (wpAny_bind (wpAny_setField ho hd (by simp) ?_)))
  exact stopEnd (s₁ := { s with heap := s.heap.update it _ }) (H.keep fun o e => kk _ _ _ hci.symm e) fun h' k => hQ h' fun b o hb e => k b o (kk _ _ _ (Ne.symm hb) e)
theorem next_tuple_endH {it l c : Addr} {i : Nat} {items : Array Value} {Q : Option Value → Shared → Prop} (H : HndAt A.in1 c s.heap) (hci : c ≠ it)
    (hit : IsTupIter s.heap it l i) (hl : IsTup s.heap l items) (hx : items[i]? = none)
    (hQ : ∀ h', Heap.ExtBut it s.heap h' → Q none { s with heap := h' }) : wpAny (model prog w) A (pyNext (.ref it)) Q E s := by
  obtain ⟨o, ho, hc, hd⟩ := id hit
  obtain ⟨ol, hol, _, nl, hdl⟩ := hl
  unfold pyNext
  refine wpAny_bind (wpAny_attempt (wpAny_callSpecial?_slot (name := Str.ofString "__next__") hit.typeIs slot_tupleiter_next
    (wpAny_call_entry slot_tupleiter_next hit.typeIs entry_tupleiter_next ?_ (args_tupleiter_next _))))
  show wpAny _ _ (field (.ref it) 0 >>= _) _ _ s
  refine wpAny_bind (wpAny_field ho hd (x := .ref l) rfl ?_)
  show wpAny _ _ (if (Value.ref l == Value.none) = true then _ else _) _ _ s
  rw [if_neg (show ¬ ((Value.ref l == Value.none) = true) from Bool.false_ne_true)]
  show wpAny _ _ (field (.ref it) 1 >>= _) _ _ s
  refine wpAny_bind (wpAny_field ho hd (x := .int i 0) rfl ?_)
  show wpAny _ _ (seqItems? (.ref l) >>= _) _ _ s
  refine wpAny_bind (wpAny_seqItems hol hdl ?_)
  simp only [Int.toNat_natCast, hx]
  have kk : ∀ (f : Obj → Obj) (b : Addr) (o : Obj), it ≠ b → s.heap.get? b = some o → (s.heap.update it f).get? b = some o := fun f b o => Heap.get?_update_of_ne f
  refine wpAny_bind (wpAny_rule (wpAny_bind (wpAny_setField ho hd (by simp) ?_)))
  exact stopEnd (s₁ := { s with heap := s.heap.update it _ }) (H.keep fun o e => kk _ _ _ hci.symm e) fun h' k => hQ h' fun b o hb e => k b o (kk _ _ _ (Ne.symm hb) e)
end
section
variable {B : Bs} {fc : FC} {R : Rm} {env : Env} {A : Around}
theorem rsize_nonneg (a b c : Int) : 0 ≤ Builtin.Range.rangeSize a b c := by
  unfold Builtin.Range.rangeSize
  repeat' split
  · have := Int.ediv_nonneg (a := b - a - 1) (b := c) (by omega) (by omega); omega
  · omega
  · have := Int.ediv_nonneg (a := a - b - 1) (b := -c) (by omega) (by omega); omega
  · omega
theorem hnd_of {σ : Sto} {s : Shared} {ea : Addr} {y : AX} (hR : R.he = some (ea, y)) (a : AOk B A R σ s) : HndAt A ea s.heap := by
  rcases a.handled with ⟨_, h⟩ | ⟨e, y', o, vs, tv, h0, h1, h2, h3, h4, _⟩
  · rw [hR] at h; cases h
  · rw [hR] at h0; cases h0
    exact ⟨h1, o, vs, h2, h3, h4⟩
theorem hnd1 {σ : Sto} {s : Shared} {ea : Addr} {y : AX} (hR : R.he = some (ea, y)) (a : AOk B A R σ s) : HndAt A.in1 ea s.heap := by
  have H := hnd_of hR a
  exact ⟨H.1, H.2⟩
theorem iterAllH {ea : Addr} {y : AX} (hR : R.he = some (ea, y)) : IterAll B R := by
  intro tp A σ s av v xs chk Q E a rh r it h
  have hm : R.hm = true := by unfold Rm.hm; rw [hR]; rfl
  have push : ∀ o, RH B σ { s with heap := s.heap.push o } ∧ Ext NoW σ s σ { s with heap := s.heap.push o } := fun o => mvPush rh o s.toks
  have hI : σ s.heap.objs.size = Option.none := rh.freshN (Nat.le_refl _)
  have hne : ea ≠ s.heap.objs.size := by
    obtain ⟨_, o, _, e, _⟩ := hnd_of hR a
    exact Nat.ne_of_lt (Heap.lt_size e)
  rw [hm] at it
  cases it with
  | tup =>
    obtain ⟨t, vs, rfl, e, hn, rs⟩ := r
    refine iter_tuple ⟨_, e, rfl, 0, rfl⟩ (h _ (fun i h => IsTupIter h s.heap.objs.size t i) _ ?_ (fun _ _ _ _ _ hi hq => wpAny_pyIter_tupleiter hi hq) (push _).1 (push _).2 hI (Nat.le_refl _) ⟨_, Heap.get?_push_size _ rfl, rfl, rfl⟩)
    refine itr_mk (C := "tuple_iterator") _ (by decide) (by decide) (fun i h ⟨o, e, c, d⟩ => ⟨o, _, e, c, d⟩) (fun i h h' ⟨o, e, r⟩ k => ⟨o, k o e, r⟩) ?_ ?_
    · rintro i x σ s' Q E a rh ⟨a', vs, e0, e, hn, r⟩ hc hi hI hx hQ
      cases e0
      obtain ⟨v, hv, rv⟩ := r.get hx
      exact next_tuple_item hi ⟨_, e, rfl, 0, rfl⟩ (by simpa using hv) fun h' hi' sb => hQ v _ rv hi' (fun b o hb q => (sb.2 b hb).trans q) rfl rfl
    · rintro i σ s' Q E a rh ⟨a', vs, e0, e, hn, r⟩ hc hi hI hx hQ
      cases e0
      exact next_tuple_endH (hnd1 hR a) hne hi ⟨_, e, rfl, 0, rfl⟩ (by simp [r.length, hx]) fun h' eb => hQ _ eb rfl rfl
  | rng a₁ b₁ c hs =>
    obtain ⟨p, t, u, w, rfl, e, hn⟩ := r
    have hnn := rsize_nonneg a₁ b₁ c
    refine wpAny_pyIter_range e hs (h _ (fun i h => IsRangeIter h s.heap.objs.size (a₁ + i * c) ((((Builtin.Range.rangeSize a₁ b₁ c).toNat : Nat) : Int) - i) c) _ ?_ (fun _ _ _ _ _ hi hq => wpAny_pyIter_rangeiter hi hq) (push _).1 (push _).2 hI (Nat.le_refl _) ?_)
    · refine itr_mk (C := "range_iterator") _ (by decide) (by decide) (fun i h e => ⟨_, _, e, rfl, rfl⟩) (fun i h h' e k => k _ e) ?_ ?_
      · intro i x σ s' Q E ao rh _ hc hi hI hx hQ
        obtain ⟨rfl, hl⟩ := rngL_get c _ a₁ i x hx
        refine wpAny_pyNext_range_item hi (by omega) fun h' hi' sb => hQ _ _ ⟨_, rfl⟩ ?_ (fun b o hb q => (sb.2 b hb).trans q) rfl rfl
        show IsRangeIter h' _ _ _ _
        have e1 : a₁ + ((i + 1 : Nat) : Int) * c = a₁ + (i : Int) * c + c := by push_cast; rw [Int.add_mul]; omega
        have e2 : ∀ n : Nat, (n : Int) - ((i + 1 : Nat) : Int) = (n : Int) - i - 1 := by intro n; push_cast; omega
        rw [e1, e2]; exact hi'
      · intro i σ s' Q E ao rh _ hc hi hI hx hQ
        rw [rngL_length] at hx
        exact next_range_endH (hnd1 hR ao) hi (by omega) fun h' eb => hQ _ eb rfl rfl
    · show IsRangeIter _ _ _ _ _
      have e1 : (((Builtin.Range.rangeSize a₁ b₁ c).toNat : Nat) : Int) - ((0 : Nat) : Int) = Builtin.Range.rangeSize a₁ b₁ c := by
        have := Int.toNat_of_nonneg hnn; omega
      rw [e1]
      simpa using Heap.get?_push_size _ rfl
  | list l _ hl =>
    cases r
    obtain ⟨vs, n, e, rs⟩ := rh.sto l _ hl
    refine wpAny_pyIter_list ⟨_, e, rfl, n, rfl⟩ (h _ (fun i h => h.IsListIter s.heap.objs.size l i) _ ?_ (fun _ _ _ _ _ hi hq => wpAny_pyIter_listiter hi hq) (push _).1 (push _).2 hI (Nat.le_refl _) ⟨_, Heap.get?_push_size _ rfl, rfl, rfl⟩)
    refine itr_mk (C := "list_iterator") _ (by decide) (by decide) (fun i h ⟨o, e, c, d⟩ => ⟨o, _, e, c, d⟩) (fun i h h' ⟨o, e, r⟩ k => ⟨o, k o e, r⟩) ?_ ?_
    · intro i x σ s' Q E a rh _ hc hi hI hx hQ
      obtain ⟨vs, n, e, r⟩ := rh.sto l _ hc
      obtain ⟨v, hv, rv⟩ := r.get hx
      exact wpAny_pyNext_list_item hi ⟨_, e, rfl, n, rfl⟩ (by simpa using hv) fun h' hi' sb => hQ v _ rv hi' (fun b o hb q => (sb.2 b hb).trans q) rfl rfl
    · intro i σ s' Q E a rh _ hc hi hI hx hQ
      obtain ⟨vs, n, e, r⟩ := rh.sto l _ hc
      exact next_list_endH (hnd1 hR a) hne hi ⟨_, e, rfl, n, rfl⟩ (by simp [r.length, hx]) fun h' eb => hQ _ eb rfl rfl
  | dict _ _ _ z => cases z
  | vals _ _ _ z => cases z
  | items _ _ _ z => cases z
end
end Mine
-- N4
open PySem PySem.W PyProof.Rows PySem.Calls PySem.Spec
namespace Mine
section
variable {prog : Program} {w : World} {A : Around} {E : Value → Shared → Prop} {s : Shared}
theorem walksListH {I l c : Addr} (hA : A.handled = some (.ref c)) (hne : l ≠ I) (hc : c ≠ I) (items : Array Value) :
    Walks prog w A I [I, l, c] [I] items.size (fun i v => items[i]? = some v) (fun i h => h.IsListIter I l i ∧ h.IsList l items ∧ HndAt A c h) where
  sub := fun b hb => by simp at hb; simp [hb]
  frame := fun _ _ _ st hk => ⟨st.1.at fun o e => hk I (by simp) o e, st.2.1.at fun o e => hk l (by simp) o e, st.2.2.keep fun o e => hk c (by simp) o e⟩
  item := fun i s Q E hi st hQ => by
    refine wpAny_pyNext_list_item st.1 st.2.1 (x := items[i]) (by simp [hi]) fun h' hit' hs' => ?_
    exact hQ _ h' s.toks (by simp [hi]) ⟨hit', st.2.1.extBut hs'.extBut hne, st.2.2.keep fun o e => (hs'.2 c hc).trans e⟩ fun b o hb e => hs'.extBut b o (fun h => hb (by simp [h])) e
  done := fun s Q E st hQ => next_list_endH ⟨st.2.2.1, st.2.2.2⟩ hc st.1 st.2.1 (by simp) fun h' he' => hQ h' s.toks fun b o hb e => he' b o (fun h => hb (by simp [h])) e
  self := fun _ _ _ _ st hQ => wpAny_pyIter_listiter st.1 hQ
noncomputable abbrev setO (led : Bool) : Obj := { cls := .type "set", dict := none, data := .set #[] 0 (.fresh 0 0 led) }
noncomputable def SetInit (prog : Program) (w : World) (s : Shared) (n : Nat) (ns : List Int) (r : Result) (s' : Shared) : Prop := match r with
  | .ok (.ret v) => v = .none ∧ ∃ h' tk, s' = { s with heap := h', toks := tk } ∧
      h'.SetOf (intKind prog w) s.heap.objs.size (fun k' => (firstMet (fun i => ns.getD i 0) n).any (· == k')) (firstMet (fun i => ns.getD i 0) n).length ∧
      ∀ b o, b < s.heap.objs.size → s.heap.get? b = some o → h'.get? b = some o
  | _ => False
theorem set_init_H {l c : Addr} {items : Array Value} {ns : List Int} (led : Bool) (H : HndAt A c s.heap)
    (hl : s.heap.IsList l items) (hi : IntsAre items.toList ns) (hb : items.size + 1 < scanBound) :
    codeAny (model prog w) A (.call (.builtin "set.__init__") ⟨[.ref s.heap.objs.size, .ref l], []⟩) (SetInit prog w s items.size ns) { s with heap := s.heap.push (setO led) } := by
  have hT : Shared.TypeIs { s with heap := s.heap.push (setO led) } (.ref s.heap.objs.size) "set" := ⟨_, Heap.get?_push_size _ rfl, rfl⟩
  refine codeAny_call_builtin F.called_set.init.plain F.entry_set_init (check_set_init_1 hT ?_)
  have hlp : (s.heap.push (setO led)).IsList l items := hl.push _
  obtain ⟨⟨ocls, odict, odata, oslots⟩, hol, hcl, nl, hdl⟩ := id hlp
  cases hcl
  cases hdl
  have hlt : l < s.heap.objs.size := by obtain ⟨o, e, _⟩ := hl; exact Heap.lt_size e
  have hct : c < s.heap.objs.size := by obtain ⟨_, o, _, e, _⟩ := H; exact Heap.lt_size e
  have hne : (Value.type "list" == Value.type "dict") = false := by decide
  have n1 := F.sub_list_set
  have n2 := F.sub_list_frozenset
  have hz : (s.heap.push (setO led)).objs.size = s.heap.objs.size + 1 := Heap.size_push ..
  unfold Builtin.«set.__init__» noKeywords Builtin.Frozenset.updateFrom
  generalize hPI : pyIter = PI
  wp_walk
  subst hPI
  refine wpAny_pyIter_list hlp (wpAny_bind (wpAny_runValue ?_))
  refine codeAny_set_update_loopS (walksListH (A := A.in1.in1) (I := (s.heap.push (setO led)).objs.size) (c := c) H.1 (by rw [hz]; exact Nat.ne_of_lt (Nat.lt_succ_of_lt hlt)) (by rw [hz]; exact Nat.ne_of_lt (Nat.lt_succ_of_lt hct)) items).toS s.heap.objs.size ?_ (fun i => ns.getD i 0) (fun i v hv => hi.int_at i v (by rw [Array.getElem?_toList]; exact hv)) hb (items.size - 0) 0 _ (by omega) (Nat.zero_le _) ?_ ?_ ?_
  · simp only [List.mem_cons, List.not_mem_nil, or_false, not_or]
    rw [hz]
    exact ⟨Nat.ne_of_lt (Nat.lt_succ_self _), Nat.ne_of_gt hlt, Nat.ne_of_gt hct⟩
  · exact ⟨⟨_, Heap.get?_push_size _ rfl, rfl, rfl⟩, hlp.push _, H.keep (A := A) fun o e => Heap.get?_push_of_some _ (Heap.get?_push_of_some _ e)⟩
  · exact SetOf_congr ((setObjOf_fresh (knd := intKind prog w) led).setOf (Heap.get?_push_of_some _ (Heap.get?_push_size _ rfl)) (by unfold scanBound; omega)) (fun _ => rfl) rfl
  · rintro ⟨h', g', d', tk', os'⟩ hm hS
    obtain rfl : g' = s.gens := hm.gens
    obtain rfl : d' = s.drawn := hm.drawn
    obtain rfl : os' = s.os := hm.os
    refine wpAny_pure (wpAny_pure ⟨rfl, h', tk', rfl, hS, fun b o hb e => hm.heap b o ?_ (Heap.get?_push_of_some _ (Heap.get?_push_of_some _ e))⟩)
    simp only [List.mem_cons, List.not_mem_nil, or_false]
    rw [hz]
    exact fun z => z.elim (Nat.ne_of_lt hb) (Nat.ne_of_lt (Nat.lt_succ_of_lt hb))
theorem set_list_H {l c : Addr} {items : Array Value} {ns : List Int} {Q : Value → Shared → Prop} (H : HndAt A c s.heap)
    (hl : s.heap.IsList l items) (hi : IntsAre items.toList ns) (hb : items.size + 1 < scanBound)
    (h : ∀ (h' : Heap) (tk : Nat), h'.SetOf (intKind prog w) s.heap.objs.size (fun k' => (firstMet (fun i => ns.getD i 0) items.size).any (· == k')) (firstMet (fun i => ns.getD i 0) items.size).length →
      (∀ b o, b < s.heap.objs.size → s.heap.get? b = some o → h'.get? b = some o) → Q (.ref s.heap.objs.size) { s with heap := h', toks := tk }) :
    wpAny (model prog w) A (call (.type "set") [.ref l]) Q E s := by
  obtain ⟨ct, tl, hmro⟩ := F.called_set.mro
  have hmade := F.called_set.made
  have hsub := F.called_set.sub
  have hnt := F.called_set.notType
  have hcc := F.called_set.canCreate
  have htc := F.typeCall_set_1 (.ref l)
  have hlt : l < s.heap.objs.size := by obtain ⟨o, e, _⟩ := hl; exact Heap.lt_size e
  have hct : c < s.heap.objs.size := by obtain ⟨_, o, _, e, _⟩ := H; exact Heap.lt_size e
  -- the type is called
  refine wpAny_call (codeAny_of_tree ?_)
  show wpAny _ _ (callAny (.type "set") _) _ _ _
  refine wpAny_pure ⟨Code.quiet_builtin _ (by decide +kernel), codeAny_builtin F.entry_type_call ?_⟩
  rw [Around.under_plain (weight_type_call_type "set" [.ref l] []) rfl]
  repeat (any_goals (first | assumption | wp_step))
  refine codeAny_mono (code_set_new_1 (.ref l) (E := E) (Q₁ := fun obj s₁ => ∃ led : Bool, obj = .ref s.heap.objs.size ∧ s₁ = { s with heap := s.heap.push (setO led) }) fun led => ⟨led, rfl, rfl⟩) fun r s₁ hr => ?_
  cases r with
  | error e => exact hr
  | ok fl =>
    cases fl with
    | ret obj =>
      obtain ⟨led, rfl, rfl⟩ := hr
      have hT : Shared.TypeIs { s with heap := s.heap.push (setO led) } (.ref s.heap.objs.size) "set" := ⟨_, Heap.get?_push_size _ rfl, rfl⟩
      have hli := F.called_set.init.lookup
      have hbi := F.called_set.init.bind (.ref s.heap.objs.size)
      repeat (any_goals (first | assumption | wp_step))
      refine codeAny_mono (set_init_H (A := A.in1) led ⟨H.1, H.2⟩ hl hi hb) fun r₂ s₂ hr₂ => ?_
      cases r₂ with
      | error e => exact hr₂.elim
      | ok fl₂ =>
        cases fl₂ with
        | ret r =>
          obtain ⟨rfl, h', tk, rfl, hS', hk'⟩ := hr₂
          repeat (any_goals (first | assumption | wp_step))
          exact h _ _ hS' hk'
        | _ => exact hr₂.elim
    | _ => exact hr.elim
end
end Mine
-- N5
open PySem PySem.W PyProof.Rows PySem.Calls PySem.Spec
namespace Mine
theorem firstMet_ok (val : Nat → Int) : ∀ n, (firstMet val n).Nodup ∧ ∀ k, k ∈ firstMet val n ↔ ∃ i, i < n ∧ val i = k
  | 0 => ⟨List.nodup_nil, fun k => ⟨fun h => absurd h List.not_mem_nil, fun ⟨i, hi, _⟩ => absurd hi (Nat.not_lt_zero i)⟩⟩
  | n + 1 => by
    obtain ⟨h1, h2⟩ := firstMet_ok val n
    have h3 : (firstMet val n).any (· == val n) = true ↔ val n ∈ firstMet val n := by simp
    have h4 : ∀ k, (∃ i, i < n + 1 ∧ val i = k) ↔ k ∈ firstMet val n ∨ k = val n := fun k => by
      rw [h2]
      constructor
      · rintro ⟨i, hi, rfl⟩
        rcases Nat.lt_succ_iff_lt_or_eq.mp hi with h | rfl
        · exact .inl ⟨i, h, rfl⟩
        · exact .inr rfl
      · rintro (⟨i, hi, rfl⟩ | rfl)
        · exact ⟨i, Nat.lt_succ_of_lt hi, rfl⟩
        · exact ⟨n, Nat.lt_succ_self n, rfl⟩
    rw [firstMet_succ]
    unfold step_dedup
    by_cases q : val n ∈ firstMet val n
    · rw [if_pos (h3.mpr q)]
      refine ⟨h1, fun k => ?_⟩
      rw [h4]
      exact ⟨.inl, fun h => h.elim id fun z => z ▸ q⟩
    · rw [if_neg fun z => q (h3.mp z)]
      refine ⟨List.nodup_append.mpr ⟨h1, List.nodup_cons.mpr ⟨List.not_mem_nil, List.nodup_nil⟩, fun a ha b hb => ?_⟩, fun k => ?_⟩
      · rintro rfl
        exact q (List.mem_singleton.mp hb ▸ ha)
      · rw [h4, List.mem_append, List.mem_singleton]
theorem any_mem (l : List Int) (k : Int) : (l.any fun x => x == k) = decide (k ∈ l) := by
  rw [Bool.eq_iff_iff, List.any_eq_true, decide_eq_true_eq]
  exact ⟨fun ⟨x, h, e⟩ => (beq_iff_eq.mp e) ▸ h, fun h => ⟨k, h, beq_self_eq_true k⟩⟩
noncomputable def oSetL : List AV → OD := fun as σ Q _ => Ex2 fun p xs => An3 (as = [.ptr p]) ((σ p = some (.list (iL xs)) ∧ xs.length < 900)) (∀ a ys, σ a = Option.none → ys.Nodup → (∀ k, k ∈ ys ↔ k ∈ xs) → Q (.ptr a) (upd σ a (.set ys)))
noncomputable def oLenS : List AV → OD := fun as σ Q _ => Ex2 fun p ys => An3 (as = [.ptr p]) (σ p = some (.set ys)) (Q (.int ys.length) σ)
section
variable {B : Bs} {fc : FC} {R : Rm}
theorem semSetL {ea : Addr} {y : AX} (hR : R.he = some (ea, y)) : SemOn B R (fun vs => call (.type "set") vs) oSetL := by
  rintro A σ s as vs Q X ao rh r ⟨p, xs, rfl, ⟨e, hl⟩, hq⟩
  obtain ⟨v1, w1, rfl, h1, h3⟩ := r
  cases h1; cases h3
  obtain ⟨vs, n, e', r⟩ := rh.sto _ _ e
  have hlen := r.length
  rw [show (iL xs).length = xs.length from List.length_map _] at hlen
  refine set_list_H (items := vs.toArray) (ns := xs) (hnd_of hR ao) ⟨_, e', rfl, n, rfl⟩ (by simpa using r.intsAre) (by rw [List.size_toArray, hlen]; unfold scanBound; omega) fun h' tk hS k => ?_
  obtain ⟨f1, f2⟩ := firstMet_ok (fun i => xs.getD i 0) vs.toArray.size
  obtain ⟨o, es, ep, t, g1, g2, _⟩ := id hS
  obtain ⟨rh', x'⟩ := mvKeeps (t := tk) rh (fun b o e => k b o (Heap.lt_size e) e) (Nat.le_of_lt (Heap.lt_size g1))
  have hσ := rh.freshN (Nat.le_refl s.heap.objs.size)
  obtain ⟨h3, h4⟩ := track (o := .set (firstMet (fun i => xs.getD i 0) vs.toArray.size)) rh' x' (Nat.le_refl _) hσ rh.size g1 (nImm (n := "set") g2.1 (by decide)) (SetOf_congr hS (fun k => any_mem _ k) rfl)
  refine ⟨.ptr _, _, h3, h4, rfl, hq _ _ hσ f1 fun k => ?_⟩
  rw [f2, List.size_toArray, hlen, List.mem_iff_getElem]
  constructor
  · rintro ⟨i, hi, rfl⟩
    exact ⟨i, hi, by rw [List.getD_eq_getElem?_getD, List.getElem?_eq_getElem hi]; rfl⟩
  · rintro ⟨i, hi, rfl⟩
    exact ⟨i, hi, by rw [List.getD_eq_getElem?_getD, List.getElem?_eq_getElem hi]; rfl⟩
theorem semLenS : SemOn B R (fun vs => call (.builtin "len") vs) oLenS := by
  rintro A σ s as vs Q X ao rh r ⟨p, ys, rfl, e, hq⟩
  obtain ⟨v1, w1, rfl, h1, h3⟩ := r
  cases h1; cases h3
  obtain ⟨o, es, ep, t, g1, g2, g3, g4, g5, g6, g7, g8⟩ := rh.sto _ _ e
  refine call_len_set g1 g2 g3 g7 (Int.lt_of_lt_of_le (Int.ofNat_lt.mpr g6) (by decide)) (PO.valT (x := .int ys.length) rh ⟨_, by rw [← g8]⟩ hq)
theorem SemE_setH {ea : Addr} {y : AX} {p pos : Pos} {es : List Expr} {ds : List ED} (hB : Tp B) (hR : R.he = some (ea, y)) (hk : fc.names.lookup (Str.ofString "set") = some .globalImplicit) (hns : es.all notStar = true) (hs : SemAs B fc R es ds) :
    SemE B fc R (.Call (.Name (Str.ofString "set") p) es [] pos) (Cal oSetL ds) := SemE_typS hB (semSetL hR) (by kernel_rfl) (by decide) (by kernel_rfl) (by kernel_rfl) hk hns hs
theorem SemE_lenSS {p pos : Pos} {es : List Expr} {ds : List ED} (hB : Tp B) (hk : fc.names.lookup (Str.ofString "len") = some .globalImplicit) (hns : es.all notStar = true) (hs : SemAs B fc R es ds) :
    SemE B fc R (.Call (.Name (Str.ofString "len") p) es [] pos) (Cal oLenS ds) := SemE_bltS hB semLenS (by kernel_rfl) (by decide) (by kernel_rfl) (by kernel_rfl) hk hns hs
theorem SemE_compH {ea : Addr} {w : AX} {x : Str} {xp : Pos} {elt iter : Expr} {ifs : List Expr} {scope : Scope} {pos : Pos} {cs : List (Str × SK)} {is : List Nat} {i : ED} {g : AV → AS → (AS → Prop) → QX → Prop} {t : BD} {e : ED} (hR : R.he = some (ea, w))
    (hcap : CapAt fc.slots scope.names cs is) (hkind : scope.kind = .function) (hnd : (((x, SK.loc) :: cs).map (·.1)).Nodup) (hnames : (scope.names.all fun q => q.2 != .local || scope.names.lookup q.1 == some .local) = true) (hs : ∀ env x, foldedSetIterable iter env x = pure x) (hi : SemE B fc R iter i)
    (hg : SemG B ⟨(x, SK.loc) :: cs, relN scope.names fc.names⟩ R (.Name x xp) g) (ht : SemIf B ⟨(x, SK.loc) :: cs, relN scope.names fc.names⟩ R ifs t) (he : SemE B ⟨(x, SK.loc) :: cs, relN scope.names fc.names⟩ R elt e) :
    SemE B fc R (.ListComp elt [⟨.Name x xp, iter, ifs, 0⟩] scope pos) (EComp true false 1 is i g t e) := by
  have h := SemE_comp (ts := [x]) (pos := pos) hi hcap hg ht he (iterAllH hR) hkind hnd (names_ok hnames) hs
  rw [show R.hm = true by unfold Rm.hm; rw [hR]; rfl] at h
  exact h
end
end Mine
-- N7
namespace Mine
section
variable {B : Bs} {fc : FC} {R : Rm} {env : Env} {A : Around}
theorem cellsFrom_none : ∀ (names : List (Str × NameKind)) (n : Nat) (acc : List (Str × Addr)), (∀ x ∈ names, x.2 ≠ NameKind.cell) → cellsFrom n names acc = acc
  | [], _, _, _ => rfl
  | (y, k) :: r, n, acc, h => by
    unfold cellsFrom
    rw [if_neg (by simpa using h (y, k) (.head _))]
    exact cellsFrom_none r n acc fun x hx => h x (.tail _ hx)
theorem pushCells_none : ∀ (names : List (Str × NameKind)) (h : Heap), (∀ x ∈ names, x.2 ≠ NameKind.cell) → pushCells h names = h
  | [], _, _ => rfl
  | (y, k) :: r, h, hh => by
    unfold pushCells
    rw [if_neg (by simpa using hh (y, k) (.head _))]
    exact pushCells_none r h fun x hx => hh x (.tail _ hx)
theorem clos_in (env : Env) : ∀ (names : List (Str × NameKind)) (cs : List (Str × Addr)) (n : Str) (c : Addr), (clos env names cs).lookup n = some c → (n, NameKind.free) ∈ names ∨ cs.lookup n = some c
  | [], cs, n, c, h => .inr h
  | (y, k) :: r, cs, n, c, h => by
    unfold clos at h
    split at h
    · rename_i hk
      rcases clos_in env r _ n c h with h | h
      · exact .inl (.tail _ h)
      · rw [List.lookup_cons] at h
        split at h
        · rename_i q
          have : n = y := by simpa using q
          have hk : k = .free := by simpa using hk
          exact .inl (this ▸ hk ▸ .head _)
        · exact .inr h
    · exact (clos_in env r cs n c h).imp (.tail _) id
theorem CompFr.own {scope : Scope} {x : Str} {rest : List (Str × NameKind)} {cs : List (Str × SK)} {is : List Nat} (hn : scope.names = (Str.ofString ".0", .local) :: (x, .cell) :: rest) (hcap : CapAt fc.slots rest cs is) (hkind : scope.kind = .function) (hx : ∀ p ∈ rest, p.1 ≠ x) (hnd : (((x, SK.own) :: cs).map (·.1)).Nodup) :
    CompFr B fc R scope ⟨(x, SK.own) :: cs, relN scope.names fc.names⟩ 1 is := by
  intro env A st s S
  have hfree : ∀ n, (n, NameKind.free) ∈ scope.names → (n, NameKind.free) ∈ rest ∧ ∃ c, env.cells.lookup n = some c := fun n h => by
    rw [hn] at h
    have h : (n, NameKind.free) ∈ rest := by
      cases h with
      | tail _ h => cases h with
        | tail _ h => exact h
    obtain ⟨i, k, h1, h2⟩ := hcap.free n h
    obtain ⟨c, ov, h3, _⟩ := S.rf.cell i n k h1 h2
    exact ⟨h, c, h3⟩
  refine ⟨clos_eq fun n h => (hfree n h).2, fun Q E hQ => ?_⟩
  obtain ⟨m1, m2⟩ := clos_mem env scope.names [] (fun n h => (hfree n h).2) (fun n c h => by simp at h)
  have m3 : ∀ c, (clos env scope.names []).lookup x ≠ some c := fun c h => by
    rcases clos_in env _ _ _ _ h with h | h
    · exact hx _ (hfree _ h).1 rfl
    · simp at h
  generalize hcl : clos env scope.names [] = cl at m1 m2 m3 ⊢
  unfold newFunctionEnv
  refine wpAny_bind (wpAny_alloc ?_)
  refine wpAny_bind (wpAny_layCells _ (fun name kind cells => by cases hkc : kind == NameKind.cell <;> simp [hkc]) _ _ _ _ ?_)
  have e1 : ∀ n, cellsFrom n scope.names cl = (x, n) :: cl := fun n => by
    rw [hn]
    unfold cellsFrom
    rw [if_neg (by decide)]
    unfold cellsFrom
    rw [if_pos (by decide)]
    exact cellsFrom_none _ _ _ hcap.noCell
  have e2 : ∀ h : Heap, pushCells h scope.names = h.push { cls := .type "cell", data := .cell none } := fun h => by
    rw [hn]
    unfold pushCells
    rw [if_neg (by decide)]
    unfold pushCells
    rw [if_pos (by decide)]
    exact pushCells_none _ _ hcap.noCell
  rw [e1, e2]
  refine wpAny_bind (wpAny_pure ?_)
  have hz1 : (s.heap.push { cls := .type "dict", data := .dict #[] }).objs.size = s.heap.objs.size + 1 := Heap.size_push ..
  have old : ∀ b o, s.heap.get? b = some o → ((s.heap.push { cls := .type "dict", data := .dict #[] }).push { cls := .type "cell", data := .cell none }).get? b = some o := fun b o e => Heap.get?_push_of_some _ (Heap.get?_push_of_some _ e)
  have hz : s.heap.objs.size ≤ ((s.heap.push { cls := .type "dict", data := .dict #[] }).push { cls := .type "cell", data := .cell none }).objs.size := by rw [Heap.size_push, hz1]; omega
  obtain ⟨rh', x'⟩ := mvKeeps (t := s.toks) S.rh old hz
  have S' := S.op rh' x'
  have hcS := hcap.slot
  have hσ : ∀ c, s.heap.objs.size ≤ c → st.σ c = Option.none ∧ B.h₀.objs.size ≤ c := fun c hc => ⟨S.rh.freshN hc, Nat.le_trans S.rh.size hc⟩
  have hl0 : ∀ c, (((x, c) :: cl).lookup x) = some c := fun c => by rw [List.lookup_cons, beq_self_eq_true]
  have hl1 : ∀ c y, y ≠ x → ((x, c) :: cl).lookup y = cl.lookup y := fun c y h => by rw [List.lookup_cons, beq_eq_false_iff_ne.mpr h]
  have hslot : ∀ (i : Nat) (y : Str) (k : SK), ((x, SK.own) :: cs)[i]? = some (y, k) → (i = 0 ∧ y = x ∧ k = .own) ∨ ∃ i', i = i' + 1 ∧ cs[i']? = some (y, k) := fun i y k hi => by
    cases i with
    | zero => simp at hi; exact .inl ⟨rfl, hi.1.symm, hi.2.symm⟩
    | succ i => exact .inr ⟨i, rfl, by simpa using hi⟩
  have hlt : ∀ y c, cl.lookup y = some c → c < s.heap.objs.size := fun y c h => by
    have h1 := m1 y c h
    rcases clos_in env _ _ _ _ (hcl ▸ h) with h2 | h2
    · obtain ⟨i, k, h3, h4⟩ := hcap.free y (hfree y h2).1
      obtain ⟨c', ov, g1, ⟨o, g2, _⟩, _⟩ := S.rf.cell i y k h3 h4
      rw [h1] at g1; cases g1
      exact Heap.lt_size g2
    · simp at h2
  suffices k : St B ⟨(x, SK.own) :: cs, relN scope.names fc.names⟩ (compEnvC scope ((x, s.heap.objs.size + 1) :: cl) s.heap.objs.size env) A R ⟨List.replicate 1 none ++ is.map (lget st.m), st.σ⟩ { s with heap := (s.heap.push { cls := .type "dict", data := .dict #[] }).push { cls := .type "cell", data := .cell none }, toks := s.toks } ∧ ∀ b, Wf ⟨(x, SK.own) :: cs, relN scope.names fc.names⟩ (compEnvC scope ((x, s.heap.objs.size + 1) :: cl) s.heap.objs.size env) b → s.heap.objs.size ≤ b from by
    rw [← hz1] at k
    have F := fun cenv h1 h2 => hQ cenv s.heap.objs.size _ _ s.toks h1 h2 k.1 old hz (Nat.le_refl _) k.2
    refine wpAny_pure (F _ ?_ ?_)
    · rfl
    · rfl
  refine ⟨⟨rh', ⟨?_, ⟨fun _ => none, (Heap.Ns.new s.heap (.type "dict")).keeps fun b o e => Heap.get?_push_of_some _ e, fun i y hi => ?_⟩, hσ _ (Nat.le_refl _), fun i y k hi hk => ?_⟩, S.ao.noW x', ⟨hkind, S.eo.glob, S.eo.blt, relabel_names S.eo, hnd, fun a b c h1 h2 => ?_⟩, S.fr⟩, fun b hb => ?_⟩
  · simp [hcS.1]
  · rcases hslot i y _ hi with ⟨_, _, z⟩ | ⟨i', rfl, q⟩
    · cases z
    · exact absurd (hcS.2 _ _ _ q).1 (by decide)
  · rcases hslot i y k hi with ⟨rfl, rfl, rfl⟩ | ⟨i', rfl, q⟩
    · exact ⟨_, none, hl0 _, ⟨_, by rw [← hz1]; exact Heap.get?_push_size _ rfl, rfl⟩, trivial, (hσ _ (Nat.le_succ _)).1, (hσ _ (Nat.le_succ _)).2⟩
    · obtain ⟨rfl, hf, j, k', h1, h2, h3⟩ := hcS.2 _ _ _ q
      obtain ⟨c, ov, g1, g2, g3, g4, g5⟩ := S'.rf.cell j y k' h2 h3
      have hl : cl.lookup y = some c := by
        obtain ⟨d, hd⟩ := Option.isSome_iff_exists.mp (m2 y (.inl (by rw [hn]; exact .tail _ (.tail _ hf))))
        have := m1 y d hd
        rw [g1] at this; cases this; exact hd
      refine ⟨c, ov, (hl1 _ _ (hx _ hf)).trans hl, g2, ?_, g4, g5⟩
      have : ∀ (l : List Nat) (i j : Nat), l[i]? = some j → lget (l.map (lget st.m)) i = lget st.m j := fun l => by
        induction l with
        | nil => intro i j h; simp at h
        | cons a l ih => intro i j h; cases i with
          | zero => simp at h; subst h; rfl
          | succ i => simp at h; exact ih i j h
      show RelO st.σ _ (lget (is.map (lget st.m)) i') ov
      rw [this _ _ _ h1]; exact g3
  · have key : ∀ y c, ((x, s.heap.objs.size + 1) :: cl).lookup y = some c → (y = x ∧ c = s.heap.objs.size + 1) ∨ (cl.lookup y = some c) := fun y c h => by
      by_cases q : y = x
      · subst q; rw [hl0] at h; exact .inl ⟨rfl, (Option.some.inj h).symm⟩
      · rw [hl1 _ _ q] at h; exact .inr h
    have no : ∀ y, cl.lookup y ≠ some (s.heap.objs.size + 1) := fun y h => absurd (hlt _ _ h) (Nat.not_lt.mpr (Nat.le_succ _))
    rcases key a c h1 with ⟨q1, p1⟩ | p1
    · rcases key b c h2 with ⟨q2, p2⟩ | p2
      · exact q1.trans q2.symm
      · exact absurd (p1 ▸ p2) (no _)
    · rcases key b c h2 with ⟨q2, p2⟩ | p2
      · exact absurd (p2 ▸ p1) (no _)
      · exact S.eo.inj a b c (m1 _ _ p1) (m1 _ _ p2)
  · rcases hb with rfl | ⟨i, y, hi, hc⟩
    · exact Nat.le_refl _
    · rcases hslot i y _ hi with ⟨rfl, rfl, _⟩ | ⟨i', rfl, q⟩
      · have hc : ((y, s.heap.objs.size + 1) :: cl).lookup y = some b := hc
        rw [hl0] at hc; cases hc; exact Nat.le_succ _
      · exact absurd (hcS.2 _ _ _ q).1 (by decide)
theorem SemG_ownK {x : Str} {pos : Pos} {i : Nat} (hi : SlotAt fc.slots i x .own) (hk : fc.names.lookup x = some .cell) : SemG B fc R (.Name x pos) (TSet i) := SemG_own hk hi.get
theorem SemE_comp2 {x y : Str} {xs : List Expr} {kx : Nat} {xp : Pos} {elt iter : Expr} {ifs : List Expr} {scope : Scope} {pos : Pos} {cs : List (Str × SK)} {is : List Nat} {i : ED} {g : AV → AS → (AS → Prop) → QX → Prop} {t : BD} {e : ED} (hR : R.he = Option.none)
    (hcap : CapAt fc.slots scope.names cs is) (hkind : scope.kind = .function) (hnd : (((x, SK.loc) :: (y, SK.loc) :: cs).map (·.1)).Nodup) (hnames : (scope.names.all fun q => q.2 != .local || scope.names.lookup q.1 == some .local) = true) (hs : ∀ env x, foldedSetIterable iter env x = pure x) (hi : SemE B fc R iter i)
    (hg : SemG B ⟨(x, SK.loc) :: (y, SK.loc) :: cs, relN scope.names fc.names⟩ R (.Tuple xs kx xp) g) (ht : SemIf B ⟨(x, SK.loc) :: (y, SK.loc) :: cs, relN scope.names fc.names⟩ R ifs t) (he : SemE B ⟨(x, SK.loc) :: (y, SK.loc) :: cs, relN scope.names fc.names⟩ R elt e) :
    SemE B fc R (.ListComp elt [⟨.Tuple xs kx xp, iter, ifs, 0⟩] scope pos) (EComp false true 2 is i g t e) := by
  have h := SemE_comp (ts := [x, y]) (pos := pos) hi hcap hg ht he (iterAll (hm_of hR)) hkind hnd (names_ok hnames) hs
  rw [hm_of hR] at h
  exact h
theorem SemS_asgComp1C {y : Str} {p : Pos} {j : Nat} {x : Str} {xp : Pos} {elt iter : Expr} {ifs : List Expr} {scope : Scope} {pos spos : Pos} {rest : List (Str × NameKind)} {cs : List (Str × SK)} {is : List Nat} {i : ED} {g : AV → AS → (AS → Prop) → QX → Prop} {t : BD} {e : ED} (hR : R.he = Option.none)
    (hF : FcOk fc) (hj : SlotAt fc.slots j y .loc) (hline : (p.line == pos.line) = true) (hfresh : (scope.names.any fun q => q.1 == y && (q.2 == .local || q.2 == .cell)) = false)
    (hn : scope.names = (Str.ofString ".0", .local) :: (x, .cell) :: rest) (hx : ∀ p ∈ rest, p.1 ≠ x)
    (hcap : CapAt fc.slots rest cs is) (hkind : scope.kind = .function) (hnd : (((x, SK.own) :: cs).map (·.1)).Nodup) (hnames : (scope.names.all fun q => q.2 != .local || scope.names.lookup q.1 == some .local) = true) (hs : ∀ env x, foldedSetIterable iter env x = pure x) (hi : SemE B fc R iter i)
    (hg : SemG B ⟨(x, SK.own) :: cs, relN scope.names fc.names⟩ R (.Name x xp) g) (ht : SemIf B ⟨(x, SK.own) :: cs, relN scope.names fc.names⟩ R ifs t) (he : SemE B ⟨(x, SK.own) :: cs, relN scope.names fc.names⟩ R elt e) :
    SemS B fc R (.Assign [.Name y p] (.ListComp elt [⟨.Name x xp, iter, ifs, 0⟩] scope pos) spos) (SAsg (TSet j) (EComp false false 1 is i g t e)) := by
  have h := SemS_asgCompF (spos := spos) (hF.loc hj) hj hline hfresh hi (.own hn hcap hkind hx hnd) hg ht he (iterAll (hm_of hR)) hkind (names_ok hnames) hs
  rw [hm_of hR] at h
  exact h
end
end Mine
-- M1
namespace Mine
noncomputable def step1 (size x : Int) : Option PP :=
  if (x.fdiv (size * size)).fmod 8 = 7 then some (x.fmod size, (x.fdiv size).fmod size)
  else if x.fmod size ≠ (x.fdiv size).fmod size then some (min (x.fmod size) ((x.fdiv size).fmod size), max (x.fmod size) ((x.fdiv size).fmod size)) else none
noncomputable def stepsOf (size : Int) (ns : List Int) : List PP := [(0, 2), (1, 2), (2, 4), (0, 3)] ++ ns.filterMap (step1 size)
inductive SpStepsI (as : List AV) (σ : Sto) (Q : AV → Sto → Prop) : Prop
  | mk : ∀ size p ns, (as = [.int size, .ptr p]) → (5 ≤ size) → (size ≤ 7) → (σ p = some (.list (iL ns))) → (ns.length < 100) → (∀ q σ', σ q = Option.none → σ' q = some (.list (prs (stepsOf size ns))) → Keeps (fun _ => False) σ σ' → Q (.ptr q) σ') → SpStepsI as σ Q
noncomputable def spSteps : List AV → OD := fun as σ Q _ => SpStepsI as σ Q
noncomputable def nI (n : Nat) : List Int := (List.range n).map fun i : Nat => (i : Int)
inductive Reach (nd br : Int → Int) (pre : Int → List Int) (n : Nat) : Int → List Int → Int → Prop
  | nil (p : Int) : Reach nd br pre n p [] p
  | step {p q : Int} {s : List Int} {k : Int} : Reach nd br pre n p s q → k ∈ nI n → k ∉ s → nd k ≤ q → (∀ a ∈ pre k, a ∈ s) → Reach nd br pre n p (s ++ [k]) (q + br k)
noncomputable def AbleL (nd br : Int → Int) (pre : Int → List Int) (n : Nat) (p : Int) (ms : List Int) : Prop := Ex2 fun s q => An4 (Reach nd br pre n p s q) (ms.Perm s) (ms.Pairwise (· ≤ ·)) (∀ k ∈ nI n, k ∉ s → nd k ≤ q → ¬ ∀ a ∈ pre k, a ∈ s)
noncomputable def Rows (σ : Sto) (ah : Addr) (n : Nat) (pre : Int → List Int) : Prop := ∃ al : Nat → Addr, σ ah = some (.list ((List.range n).map fun i => .ptr (al i))) ∧ ∀ i, i < n → σ (al i) = some (.list (iL (pre i))) ∧ (pre i).length < 100
inductive SpAbleI (as : List AV) (σ : Sto) (Q : AV → Sto → Prop) : Prop
  | mk : ∀ p a b c ns bs n pre, (as = [.int p, .ptr a, .ptr b, .ptr c]) → (σ a = some (.list (iL ns))) → (σ b = some (.list (iL bs))) → (Rows σ c n pre) → (ns.length = n) → (bs.length = n) → (n < 60) → (∀ q σ' ms, σ q = Option.none → σ' q = some (.list (iL ms)) → AbleL (fun k => ns.getD k.toNat 0) (fun k => bs.getD k.toNat 0) pre n p ms → Keeps (fun _ => False) σ σ' → Q (.ptr q) σ') → SpAbleI as σ Q
noncomputable def spAble : List AV → OD := fun as σ Q _ => SpAbleI as σ Q
noncomputable def RingOf (r : List Int) (st : List PP) : Prop := 2 ≤ r.length ∧ r.head? = r.getLast? ∧ r.dropLast.Nodup ∧ ∀ i, i + 1 < r.length → (r.getD i 0, r.getD (i + 1) 0) ∈ st
inductive SpRingI (as : List AV) (σ : Sto) (Q : AV → Sto → Prop) : Prop
  | mk : ∀ a b r st, (as = [.ptr a, .ptr b]) → (σ a = some (.list (iL r))) → (σ b = some (.list (prs st))) → (r.length < 900) → (st.length < 900) → (RingOf r st) → (∀ σ', Keeps (fun _ => False) σ σ' → Q (.bool true) σ') → SpRingI as σ Q
noncomputable def spRing : List AV → OD := fun as σ Q _ => SpRingI as σ Q
noncomputable def Free (S : SS) (ord : List Int) (k : Int) : Prop := k ∈ S.ks ∧ k ∉ ord ∧ ∀ a ∈ S.ks, k ∈ S.su a → a ∈ ord
inductive RunO (nd : Int → Int) (S : SS) : List Int → Prop
  | nil : RunO nd S []
  | pick {o : List Int} {k : Int} : RunO nd S o → Free S o k → (∀ j, Free S o j → ¬ PL (nd j, j) (nd k, k)) → RunO nd S (o ++ [k])
inductive SpRunI (as : List AV) (σ : Sto) (Q : AV → Sto → Prop) : Prop
  | mk : ∀ A S p ns, (as = [.ptr A.ps, .ptr p]) → (SAt σ A (prepS S)) → (σ p = some (.list (iL ns))) → (¬ SOwn A (prepS S) p) → (S.rd = none) → (S.po = 0) → (S.fi = 0) → (S.ks.length < 60) → (ns.length ≤ 8) → ((∀ k ∈ S.ks, 0 ≤ k ∧ k.toNat < ns.length)) → ((∀ k ∈ S.ks, ∀ s ∈ S.su k, s ∈ S.ks)) → ((∀ k ∈ S.ks, (S.su k).length < 100)) → ((∀ k ∈ S.ks, S.np k = ((S.ks.map fun a => (S.su a).count k).sum : Nat))) → (∀ A' S' σ' q ord, σ q = Option.none → σ' q = some (.list (iL ord)) → RunO (fun k => ns.getD k.toNat 0) S ord → (∀ k, ¬ Free S ord k) → A'.ps = A.ps → SAt σ' A' S' → S'.rd = some [] → S'.po = ord.length → S'.fi = ord.length → (∀ a o, Held σ A (prepS S) a o → Held σ' A' S' a o) → Q (.ptr q) σ') → SpRunI as σ Q
noncomputable def spRun : List AV → OD := fun as σ Q _ => SpRunI as σ Q
end Mine
section
set_option maxHeartbeats 4000000
-- P0d
namespace Mine
noncomputable abbrev fcDealt : FC := ⟨[(Str.ofString "base", .own), (Str.ofString "numbers", .own)], [(Str.ofString "base", .cell), (Str.ofString "numbers", .cell), (Str.ofString "range", .globalImplicit), (Str.ofString "len", .globalImplicit)]⟩
noncomputable def dDealt (B : Bs) (R : Rm) (hB : Tp B) (hF : FcOk fcDealt) (hR : R.he = none) : { d : SD // SemSs B fcDealt R (bodyOf B 181) d } := by
  apply Subtype.mk
  case property =>
    change SemSs B _ R (_ :: _) _
    exact (SemSs_one (SemS_ret (SemE_comp1 hR (.loc (.loc (.glob (.glob (.own .head (.own (.tail .head) .nil)))))) rfl (by decide) (by kernel_rfl) (fun _ _ => rfl) (SemE_rangeS hB (NameAt.look (.tail (.tail .head)) hF.nd) rfl (SemAs_cons rfl (SemE_lenS hB (NameAt.look (.tail (.tail (.tail .head))) hF.nd) rfl (SemAs_cons rfl (SemE_ownS hF .head) SemAs_nil)) SemAs_nil)) (SemG_locK .head (by kernel_rfl)) SemIf_nil (SemE_BinOp semAdd (SemE_Subscript (semItem (fun _ _ => rfl)) (SemE_capK (.tail .head) (by kernel_rfl) (by kernel_rfl)) (SemE_locK .head (by kernel_rfl) (by kernel_rfl))) (SemE_sumS hB hR (by kernel_rfl) rfl (SemAs_cons rfl (SemE_slice (SemE_capK (.tail (.tail .head)) (by kernel_rfl) (by kernel_rfl)) (SemP_some (SemE_locK .head (by kernel_rfl) (by kernel_rfl))) SemP_none (SemP_some (SemE_lenS hB (by kernel_rfl) rfl (SemAs_cons rfl (SemE_capK (.tail .head) (by kernel_rfl) (by kernel_rfl)) SemAs_nil))) (fun _ _ => ⟨_, rfl⟩)) SemAs_nil))))))
end Mine
end
section
set_option maxHeartbeats 4000000
-- P1d
namespace Mine
structure Bx (p : Prop) : Prop where
  o : p
theorem spec_plB {B : Bs} {fc : FC} {R R' : Rm} {f : Addr} {fd : FuncData} {body : List Stmt} {ps ls : List (Str × SK)} {d : SD} {sp : List AV → OD} (F : FnOk B f fd body) (hfc : fc = ⟨ps ++ ls, fd.scope.names⟩)
    (hlv : R.lv = R'.lv + 1) (hhm : R.he = R'.he) (hb : Bx (SemSs B fc R' body d)) (hnd : ((ps ++ ls).map (·.1)).Nodup) (hok : slotsOk fd.scope.names (ps ++ ls) = true)
    (hbind : ∀ vs : List Value, vs.length = ps.length → bindArgs fd ⟨vs, []⟩ = pure ((ps.map (·.1)).zip vs))
    (hsp : ∀ avs σ Q X, sp avs σ Q X → avs.length = ps.length ∧ d ⟨avs.map some ++ List.replicate ls.length Option.none, σ⟩ (fun o st => ∃ σ', Sub σ' st.σ ∧ Q (outV o) σ') (fun x st => ∃ σ', Sub σ' st.σ ∧ X x σ')) : SemC B R (.ref f) sp :=
  spec_pl F hfc hlv hhm hb.o hnd hok hbind hsp
section
variable {B : Bs} {fc : FC} {R : Rm}
theorem consB {c : Stmt} {cs : List Stmt} {a b : SD} (h : Bx (SemS B fc R c a)) (hs : Bx (SemSs B fc R cs b)) : Bx (SemSs B fc R (c :: cs) (SSeq a b)) := ⟨SemSs_cons h.o hs.o⟩
theorem asgB {t value : Expr} {pos : Pos} {a : ED} {g : AV → AS → (AS → Prop) → QX → Prop} (h : Bx (SemE B fc R value a)) (hg : Bx (SemG B fc R t g))
    (hs : ∀ env, EnvOk fc env → swapsWith value (some t) pos.line env = pure false) (hw : ∀ env, swappedStores [t] value env = pure none) (hst : ∀ env, assignEach [t] env = [(false, assign t env)]) : Bx (SemS B fc R (.Assign [t] value pos) (SAsg g a)) := ⟨SemS_assign h.o hg.o hs hw hst⟩
theorem listB {es : List Expr} {ds : List ED} {pos : Pos} (hs : Bx (SemAs B fc R es ds)) : Bx (SemE B fc R (.List es pos) (EList ds)) := ⟨SemE_list hs.o⟩
theorem asB {e : Expr} {es : List Expr} {d : ED} {ds : List ED} (he : notStar e = true) (h : Bx (SemE B fc R e d)) (hs : Bx (SemAs B fc R es ds)) : Bx (SemAs B fc R (e :: es) (d :: ds)) := ⟨SemAs_cons he h.o hs.o⟩
theorem tupB {es : List Expr} {ds : List ED} {k : Nat} {pos : Pos} (hs : Bx (SemAs B fc R es ds)) : Bx (SemE B fc R (.Tuple es k pos) (ETup ds)) := ⟨SemE_tuple hs.o⟩
end
noncomputable abbrev fcSteps : FC := ⟨[(Str.ofString "size", .loc), (Str.ofString "numbers", .loc), (Str.ofString "steps", .loc), (Str.ofString "x", .loc), (Str.ofString "a", .loc), (Str.ofString "b", .loc)], [(Str.ofString "size", .local), (Str.ofString "numbers", .local), (Str.ofString "steps", .local), (Str.ofString "x", .local), (Str.ofString "a", .local), (Str.ofString "b", .local), (Str.ofString "min", .globalImplicit), (Str.ofString "max", .globalImplicit)]⟩
noncomputable def dSteps (B : Bs) (R : Rm) (hB : Tp B) (hF : FcOk fcSteps) (hR : R.he = none) : { d : SD // Bx (SemSs B fcSteps R (bodyOf B 188) d) } := by
  apply Subtype.mk
  case property =>
    change Bx (SemSs B _ R (_ :: _) _)
    exact (consB (asgB (listB (asB rfl (tupB (asB rfl ⟨SemE_int _ _ _⟩ (asB rfl ⟨SemE_int _ _ _⟩ ⟨SemAs_nil⟩))) (asB rfl (tupB (asB rfl ⟨SemE_int _ _ _⟩ (asB rfl ⟨SemE_int _ _ _⟩ ⟨SemAs_nil⟩))) (asB rfl (tupB (asB rfl ⟨SemE_int _ _ _⟩ (asB rfl ⟨SemE_int _ _ _⟩ ⟨SemAs_nil⟩))) (asB rfl (tupB (asB rfl ⟨SemE_int _ _ _⟩ (asB rfl ⟨SemE_int _ _ _⟩ ⟨SemAs_nil⟩))) ⟨SemAs_nil⟩))))) ⟨(SemG_locS hF (.tail (.tail .head)))⟩ (fun _ _ => rfl) (fun _ => rfl) (fun _ => rfl)) ⟨(SemSs_cons (SemS_forS hR (fun _ _ => rfl) (SemE_locS hF (.tail .head)) (SemG_locS hF (.tail (.tail (.tail .head)))) (SemSs_cons (SemS_assign (SemE_BinOp semMod (SemE_locS hF (.tail (.tail (.tail .head)))) (SemE_locS hF .head)) (SemG_locS hF (.tail (.tail (.tail (.tail .head))))) (fun _ _ => rfl) (fun _ => rfl) (fun _ => rfl)) (SemSs_cons (SemS_assign (SemE_BinOp semMod (SemE_BinOp semDiv (SemE_locS hF (.tail (.tail (.tail .head)))) (SemE_locS hF .head)) (SemE_locS hF .head)) (SemG_locS hF (.tail (.tail (.tail (.tail (.tail .head)))))) (fun _ _ => rfl) (fun _ => rfl) (fun _ => rfl)) (SemSs_one (SemS_if (SemB_cmp semEq semTru (SemE_BinOp semMod (SemE_BinOp semDiv (SemE_locS hF (.tail (.tail (.tail .head)))) (SemE_BinOp semMul (SemE_locS hF .head) (SemE_locS hF .head))) (SemE_int _ _ _)) (SemE_int _ _ _) rfl) (SemSs_one (SemS_expr (SemE_mappend (fun _ => rfl) rfl rfl (by decide) (SemE_locS hF (.tail (.tail .head))) (SemAs_cons rfl (SemE_tuple (SemAs_cons rfl (SemE_locS hF (.tail (.tail (.tail (.tail .head))))) (SemAs_cons rfl (SemE_locS hF (.tail (.tail (.tail (.tail (.tail .head)))))) SemAs_nil))) SemAs_nil)) (fun _ => rfl))) (SemSs_one (SemS_if (SemB_cmp semNe semTru (SemE_locS hF (.tail (.tail (.tail (.tail .head))))) (SemE_locS hF (.tail (.tail (.tail (.tail (.tail .head)))))) rfl) (SemSs_one (SemS_expr (SemE_mappend (fun _ => rfl) rfl rfl (by decide) (SemE_locS hF (.tail (.tail .head))) (SemAs_cons rfl (SemE_tuple (SemAs_cons rfl (SemE_minS hB hR (NameAt.look (.tail (.tail (.tail (.tail (.tail (.tail .head)))))) hF.nd) rfl (SemAs_cons rfl (SemE_locS hF (.tail (.tail (.tail (.tail .head))))) (SemAs_cons rfl (SemE_locS hF (.tail (.tail (.tail (.tail (.tail .head)))))) SemAs_nil))) (SemAs_cons rfl (SemE_maxS hB hR (NameAt.look (.tail (.tail (.tail (.tail (.tail (.tail (.tail .head))))))) hF.nd) rfl (SemAs_cons rfl (SemE_locS hF (.tail (.tail (.tail (.tail .head))))) (SemAs_cons rfl (SemE_locS hF (.tail (.tail (.tail (.tail (.tail .head)))))) SemAs_nil))) SemAs_nil))) SemAs_nil)) (fun _ => rfl))) SemSs_nil)))))) SemSs_nil) (SemSs_one (SemS_ret (SemE_locS hF (.tail (.tail .head))))))⟩)
end Mine
end
section
set_option maxHeartbeats 4000000
-- P2d
namespace Mine
noncomputable abbrev fcAble : FC := ⟨[(Str.ofString "purse", .loc), (Str.ofString "needs", .loc), (Str.ofString "brings", .loc), (Str.ofString "ahead", .loc), (Str.ofString "able", .own), (Str.ofString "grown", .loc), (Str.ofString "k", .loc)], [(Str.ofString "purse", .local), (Str.ofString "needs", .local), (Str.ofString "brings", .local), (Str.ofString "ahead", .local), (Str.ofString "able", .cell), (Str.ofString "grown", .local), (Str.ofString "k", .local), (Str.ofString "range", .globalImplicit), (Str.ofString "len", .globalImplicit), (Str.ofString "sorted", .globalImplicit)]⟩
noncomputable def dAble (B : Bs) (R : Rm) (hB : Tp B) (hF : FcOk fcAble) (hR : R.he = none) : { d : SD // SemSs B fcAble R (bodyOf B 193) d } := by
  apply Subtype.mk
  case property =>
    change SemSs B _ R (_ :: _) _
    exact (SemSs_cons (SemS_assign (SemE_list SemAs_nil) (SemG_ownS hF (.tail (.tail (.tail (.tail .head))))) (fun _ _ => rfl) (fun _ => rfl) (fun _ => rfl)) (SemSs_cons (SemS_assign (SemE_bool _ _ _) (SemG_locS hF (.tail (.tail (.tail (.tail (.tail .head)))))) (fun _ _ => rfl) (fun _ => rfl) (fun _ => rfl)) (SemSs_cons (SemS_while (SemB_val semTru (SemE_locS hF (.tail (.tail (.tail (.tail (.tail .head)))))) (fun _ => rfl)) (SemSs_cons (SemS_assign (SemE_bool _ _ _) (SemG_locS hF (.tail (.tail (.tail (.tail (.tail .head)))))) (fun _ _ => rfl) (fun _ => rfl) (fun _ => rfl)) (SemSs_one (SemS_forS hR (fun _ _ => rfl) (SemE_rangeS hB (NameAt.look (.tail (.tail (.tail (.tail (.tail (.tail (.tail .head))))))) hF.nd) rfl (SemAs_cons rfl (SemE_lenS hB (NameAt.look (.tail (.tail (.tail (.tail (.tail (.tail (.tail (.tail .head)))))))) hF.nd) rfl (SemAs_cons rfl (SemE_locS hF (.tail .head)) SemAs_nil)) SemAs_nil)) (SemG_locS hF (.tail (.tail (.tail (.tail (.tail (.tail .head))))))) (SemSs_one (SemS_if (SemB_bool (SemBs_consA (SemB_cmp semNotIn semTru (SemE_locS hF (.tail (.tail (.tail (.tail (.tail (.tail .head))))))) (SemE_ownS hF (.tail (.tail (.tail (.tail .head))))) rfl) (SemBs_consA (SemB_cmp semLe semTru (SemE_Subscript (semItem (fun _ _ => rfl)) (SemE_locS hF (.tail .head)) (SemE_locS hF (.tail (.tail (.tail (.tail (.tail (.tail .head)))))))) (SemE_locS hF .head) rfl) (SemBs_consA (SemB_cmp semEq semTru (SemE_comp1 hR (.loc (.loc (.own (.tail (.tail (.tail (.tail .head)))) .nil))) rfl (by decide) (by kernel_rfl) (fun _ _ => rfl) (SemE_Subscript (semItem (fun _ _ => rfl)) (SemE_locS hF (.tail (.tail (.tail .head)))) (SemE_locS hF (.tail (.tail (.tail (.tail (.tail (.tail .head)))))))) (SemG_locK .head (by kernel_rfl)) (SemIf_one (SemB_cmp semNotIn semTru (SemE_locK .head (by kernel_rfl) (by kernel_rfl)) (SemE_capK (.tail .head) (by kernel_rfl) (by kernel_rfl)) rfl)) (SemE_locK .head (by kernel_rfl) (by kernel_rfl))) (SemE_list SemAs_nil) rfl) SemBs_nilA)))) (SemSs_cons (SemS_expr (SemE_mappend (fun _ => rfl) rfl rfl (by decide) (SemE_ownS hF (.tail (.tail (.tail (.tail .head))))) (SemAs_cons rfl (SemE_locS hF (.tail (.tail (.tail (.tail (.tail (.tail .head))))))) SemAs_nil)) (fun _ => rfl)) (SemSs_cons (SemS_augN hF .head semIAdd (SemE_Subscript (semItem (fun _ _ => rfl)) (SemE_locS hF (.tail (.tail .head))) (SemE_locS hF (.tail (.tail (.tail (.tail (.tail (.tail .head))))))))) (SemSs_one (SemS_assign (SemE_bool _ _ _) (SemG_locS hF (.tail (.tail (.tail (.tail (.tail .head)))))) (fun _ _ => rfl) (fun _ => rfl) (fun _ => rfl))))) SemSs_nil)) SemSs_nil))) SemSs_nil) (SemSs_one (SemS_ret (SemE_sortedS hB (NameAt.look (.tail (.tail (.tail (.tail (.tail (.tail (.tail (.tail (.tail .head))))))))) hF.nd) rfl (SemAs_cons rfl (SemE_ownS hF (.tail (.tail (.tail (.tail .head))))) SemAs_nil)))))))
end Mine
end
section
set_option maxHeartbeats 4000000
-- P3d
namespace Mine
noncomputable abbrev fcRun : FC := ⟨[(Str.ofString "sorter", .loc), (Str.ofString "needs", .loc), (Str.ofString "heap", .loc), (Str.ofString "order", .loc), (Str.ofString "fresh", .loc), (Str.ofString "work", .loc)], [(Str.ofString "sorter", .local), (Str.ofString "needs", .local), (Str.ofString "heap", .local), (Str.ofString "order", .local), (Str.ofString "fresh", .local), (Str.ofString "work", .local), (Str.ofString "heappush", .globalImplicit), (Str.ofString "heappushpop", .globalImplicit), (Str.ofString "heappop", .globalImplicit)]⟩
noncomputable def dRun (B : Bs) (R : Rm) (hB : Tp B) (hF : FcOk fcRun) (hR : R.he = none) (m_done : MethOk B.K 172 (Str.ofString "done") 155) (c_done : SemC B R (.ref 155) spDone2) (m_get_ready : MethOk B.K 172 (Str.ofString "get_ready") 134) (c_get_ready : SemC B R (.ref 134) spRdy) (c_heappush : SemC B R (.ref 28) spPush) (c_heappop : SemC B R (.ref 35) spPop) (c_heappushpop : SemC B R (.ref 42) spPP) : { d : SD // SemSs B fcRun R (bodyOf B 205) d } := by
  apply Subtype.mk
  case property =>
    change SemSs B _ R (_ :: _) _
    exact (SemSs_cons (SemS_assign (SemE_list SemAs_nil) (SemG_locS hF (.tail (.tail .head))) (fun _ _ => rfl) (fun _ => rfl) (fun _ => rfl)) (SemSs_cons (SemS_assign (SemE_list SemAs_nil) (SemG_locS hF (.tail (.tail (.tail .head)))) (fun _ _ => rfl) (fun _ => rfl) (fun _ => rfl)) (SemSs_cons (SemS_assign (SemE_mthI hB c_get_ready m_get_ready (by kernel_rfl) (fun _ => rfl) rfl rfl (by decide) (SemE_locS hF .head) SemAs_nil) (SemG_locS hF (.tail (.tail (.tail (.tail .head))))) (fun _ _ => rfl) (fun _ => rfl) (fun _ => rfl)) (SemSs_cons (SemS_while (SemB_bool (SemBs_consO (SemB_cmp semNe semTru (SemE_locS hF (.tail (.tail .head))) (SemE_list SemAs_nil) rfl) (SemBs_consO (SemB_cmp semNe semTru (SemE_locS hF (.tail (.tail (.tail (.tail .head))))) (SemE_tuple SemAs_nil) rfl) SemBs_nilO))) (SemSs_cons (SemS_forS hR (fun _ _ => rfl) (SemE_slice1 (SemE_locS hF (.tail (.tail (.tail (.tail .head))))) (fun _ _ => ⟨_, rfl⟩)) (SemG_locS hF (.tail (.tail (.tail (.tail (.tail .head)))))) (SemSs_one (SemS_expr (SemE_fnS hB c_heappush (by kernel_rfl) (by kernel_rfl) (NameAt.look (.tail (.tail (.tail (.tail (.tail (.tail .head)))))) hF.nd) (by kernel_rfl) rfl (SemAs_cons rfl (SemE_locS hF (.tail (.tail .head))) (SemAs_cons rfl (SemE_tuple (SemAs_cons rfl (SemE_Subscript (semItem (fun _ _ => rfl)) (SemE_locS hF (.tail .head)) (SemE_locS hF (.tail (.tail (.tail (.tail (.tail .head))))))) (SemAs_cons rfl (SemE_locS hF (.tail (.tail (.tail (.tail (.tail .head)))))) SemAs_nil))) SemAs_nil))) (fun _ => rfl))) SemSs_nil) (SemSs_cons (SemS_if (SemB_cmp semNe semTru (SemE_locS hF (.tail (.tail (.tail (.tail .head))))) (SemE_tuple SemAs_nil) rfl) (SemSs_one (SemS_assign (SemE_Subscript (semItem (fun _ _ => rfl)) (SemE_fnS hB c_heappushpop (by kernel_rfl) (by kernel_rfl) (NameAt.look (.tail (.tail (.tail (.tail (.tail (.tail (.tail .head))))))) hF.nd) (by kernel_rfl) rfl (SemAs_cons rfl (SemE_locS hF (.tail (.tail .head))) (SemAs_cons rfl (SemE_tuple (SemAs_cons rfl (SemE_Subscript (semItem (fun _ _ => rfl)) (SemE_locS hF (.tail .head)) (SemE_Subscript (semItem (fun _ _ => rfl)) (SemE_locS hF (.tail (.tail (.tail (.tail .head))))) (SemE_int _ _ _))) (SemAs_cons rfl (SemE_Subscript (semItem (fun _ _ => rfl)) (SemE_locS hF (.tail (.tail (.tail (.tail .head))))) (SemE_int _ _ _)) SemAs_nil))) SemAs_nil))) (SemE_int _ _ _)) (SemG_locS hF (.tail (.tail (.tail (.tail (.tail .head)))))) (fun _ _ => rfl) (fun _ => rfl) (fun _ => rfl))) (SemSs_one (SemS_assign (SemE_Subscript (semItem (fun _ _ => rfl)) (SemE_fnS hB c_heappop (by kernel_rfl) (by kernel_rfl) (NameAt.look (.tail (.tail (.tail (.tail (.tail (.tail (.tail (.tail .head)))))))) hF.nd) (by kernel_rfl) rfl (SemAs_cons rfl (SemE_locS hF (.tail (.tail .head))) SemAs_nil)) (SemE_int _ _ _)) (SemG_locS hF (.tail (.tail (.tail (.tail (.tail .head)))))) (fun _ _ => rfl) (fun _ => rfl) (fun _ => rfl)))) (SemSs_cons (SemS_expr (SemE_mthI hB c_done m_done (by kernel_rfl) (fun _ => rfl) rfl rfl (by decide) (SemE_locS hF .head) (SemAs_cons rfl (SemE_locS hF (.tail (.tail (.tail (.tail (.tail .head)))))) SemAs_nil)) (fun _ => rfl)) (SemSs_cons (SemS_expr (SemE_mappend (fun _ => rfl) rfl rfl (by decide) (SemE_locS hF (.tail (.tail (.tail .head)))) (SemAs_cons rfl (SemE_locS hF (.tail (.tail (.tail (.tail (.tail .head)))))) SemAs_nil)) (fun _ => rfl)) (SemSs_one (SemS_assign (SemE_mthI hB c_get_ready m_get_ready (by kernel_rfl) (fun _ => rfl) rfl rfl (by decide) (SemE_locS hF .head) SemAs_nil) (SemG_locS hF (.tail (.tail (.tail (.tail .head))))) (fun _ _ => rfl) (fun _ => rfl) (fun _ => rfl))))))) SemSs_nil) (SemSs_one (SemS_ret (SemE_locS hF (.tail (.tail (.tail .head))))))))))
end Mine
end
section
set_option maxHeartbeats 4000000
-- P4d
namespace Mine
noncomputable abbrev fcRing : FC := ⟨[(Str.ofString "told", .own), (Str.ofString "steps", .own)], [(Str.ofString "told", .cell), (Str.ofString "steps", .cell), (Str.ofString "len", .globalImplicit), (Str.ofString "set", .globalImplicit), (Str.ofString "range", .globalImplicit)]⟩
noncomputable def dRing (B : Bs) (R : Rm) (hB : Tp B) (hF : FcOk fcRing) {ea : Addr} {w : AX} (hH : R.he = some (ea, w)) : { d : SD // SemSs B fcRing R (bodyOf B 198) d } := by
  apply Subtype.mk
  case property =>
    change SemSs B _ R (_ :: _) _
    exact (SemSs_cons (SemS_if (SemB_bool (SemBs_consO (SemB_cmp semLt semTru (SemE_lenS hB (NameAt.look (.tail (.tail .head)) hF.nd) rfl (SemAs_cons rfl (SemE_ownS hF .head) SemAs_nil)) (SemE_int _ _ _) rfl) (SemBs_consO (SemB_cmp semNe semTru (SemE_Subscript (semItem (fun _ _ => rfl)) (SemE_ownS hF .head) (SemE_int _ _ _)) (SemE_Subscript (semItem (fun _ _ => rfl)) (SemE_ownS hF .head) (SemE_unary semNeg (SemE_int _ _ _))) rfl) (SemBs_consO (SemB_cmp semNe semTru (SemE_lenSS hB (NameAt.look (.tail (.tail .head)) hF.nd) rfl (SemAs_cons rfl (SemE_setH hB hH (NameAt.look (.tail (.tail (.tail .head))) hF.nd) rfl (SemAs_cons rfl (SemE_ownS hF .head) SemAs_nil)) SemAs_nil)) (SemE_BinOp semSub (SemE_lenS hB (NameAt.look (.tail (.tail .head)) hF.nd) rfl (SemAs_cons rfl (SemE_ownS hF .head) SemAs_nil)) (SemE_int _ _ _)) rfl) SemBs_nilO)))) (SemSs_one (SemS_ret (SemE_bool _ _ _))) SemSs_nil) (SemSs_one (SemS_ret (SemE_Compare semEq (SemE_compH hH (.loc (.loc (.own (.tail .head) (.own .head .nil)))) rfl (by decide) (by kernel_rfl) (fun _ _ => rfl) (SemE_rangeS hB (NameAt.look (.tail (.tail (.tail (.tail .head)))) hF.nd) rfl (SemAs_cons rfl (SemE_int _ _ _) (SemAs_cons rfl (SemE_lenS hB (NameAt.look (.tail (.tail .head)) hF.nd) rfl (SemAs_cons rfl (SemE_ownS hF .head) SemAs_nil)) SemAs_nil))) (SemG_locK .head (by kernel_rfl)) (SemIf_one (SemB_cmp semNotIn semTru (SemE_tuple (SemAs_cons rfl (SemE_Subscript (semItem (fun _ _ => rfl)) (SemE_capK (.tail (.tail .head)) (by kernel_rfl) (by kernel_rfl)) (SemE_BinOp semSub (SemE_locK .head (by kernel_rfl) (by kernel_rfl)) (SemE_int _ _ _))) (SemAs_cons rfl (SemE_Subscript (semItem (fun _ _ => rfl)) (SemE_capK (.tail (.tail .head)) (by kernel_rfl) (by kernel_rfl)) (SemE_locK .head (by kernel_rfl) (by kernel_rfl))) SemAs_nil))) (SemE_capK (.tail .head) (by kernel_rfl) (by kernel_rfl)) rfl)) (SemE_locK .head (by kernel_rfl) (by kernel_rfl))) (SemE_list SemAs_nil) rfl))))
end Mine
end
section
set_option maxHeartbeats 4000000
-- P5d
namespace Mine
noncomputable abbrev fcLaw : FC := ⟨[(Str.ofString "script", .loc), (Str.ofString "numbers", .loc), (Str.ofString "size", .loc), (Str.ofString "steps", .own), (Str.ofString "a", .loc), (Str.ofString "b", .loc), (Str.ofString "ahead", .loc), (Str.ofString "needs", .loc), (Str.ofString "brings", .loc), (Str.ofString "most", .loc), (Str.ofString "sorter", .loc), (Str.ofString "work", .loc), (Str.ofString "error", .loc), (Str.ofString "order", .loc), (Str.ofString "lacks", .own), (Str.ofString "hand", .loc), (Str.ofString "purse", .own), (Str.ofString "many", .loc)], [(Str.ofString "script", .local), (Str.ofString "numbers", .local), (Str.ofString "size", .local), (Str.ofString "steps", .cell), (Str.ofString "a", .local), (Str.ofString "b", .local), (Str.ofString "ahead", .local), (Str.ofString "needs", .local), (Str.ofString "brings", .local), (Str.ofString "most", .local), (Str.ofString "sorter", .local), (Str.ofString "work", .local), (Str.ofString "error", .local), (Str.ofString "order", .local), (Str.ofString "lacks", .cell), (Str.ofString "hand", .local), (Str.ofString "purse", .cell), (Str.ofString "many", .local), (Str.ofString "sum", .globalImplicit), (Str.ofString "_law_steps", .globalImplicit), (Str.ofString "range", .globalImplicit), (Str.ofString "_law_dealt", .globalImplicit), (Str.ofString "_law_able", .globalImplicit), (Str.ofString "TopologicalSorter", .globalImplicit), (Str.ofString "len", .globalImplicit), (Str.ofString "CycleError", .globalImplicit), (Str.ofString "_law_is_ring", .globalImplicit), (Str.ofString "_law_run", .globalImplicit), (Str.ofString "sorted", .globalImplicit), (Str.ofString "min", .globalImplicit)]⟩
noncomputable def dLaw (B : Bs) (R : Rm) (hB : Tp B) (hF : FcOk fcLaw) (hR : R.he = none) (hO : cycO B) (m_add : MethOk B.K 172 (Str.ofString "add") 122) (c_add : SemC B R (.ref 122) spAdd) (m_prepare : MethOk B.K 172 (Str.ofString "prepare") 127) (c_prepare : SemC B R (.ref 127) spPrep2) (m_is_active : MethOk B.K 172 (Str.ofString "is_active") 141) (c_is_active : SemC B R (.ref 141) spAct) (c__law_dealt : SemC B R (.ref 181) spDealt) (c__law_steps : SemC B R (.ref 188) spSteps) (c__law_able : SemC B R (.ref 193) spAble) (c__law_is_ring : ∀ ea y, SemC B ⟨R.lv, some (ea, y)⟩ (.ref 198) spRing) (c__law_run : SemC B R (.ref 205) spRun) (c_TopologicalSorter : SemC B R (.ref 172) (oMake 172 spInit0)) : { d : SD // SemSs B fcLaw R (bodyOf B 210) d } := by
  apply Subtype.mk
  case property =>
    change SemSs B _ R (_ :: _) _
    exact (SemSs_cons (SemS_assign (SemE_slice (SemE_locS hF .head) SemP_none (SemP_some (SemE_int _ _ _)) SemP_none (fun _ _ => ⟨_, rfl⟩)) (SemG_locS hF (.tail .head)) (fun _ _ => rfl) (fun _ => rfl) (fun _ => rfl)) (SemSs_cons (SemS_assign (SemE_BinOp semAdd (SemE_int _ _ _) (SemE_BinOp semMod (SemE_sumS hB hR (NameAt.look (.tail (.tail (.tail (.tail (.tail (.tail (.tail (.tail (.tail (.tail (.tail (.tail (.tail (.tail (.tail (.tail (.tail (.tail .head)))))))))))))))))) hF.nd) rfl (SemAs_cons rfl (SemE_locS hF (.tail .head)) SemAs_nil)) (SemE_int _ _ _))) (SemG_locS hF (.tail (.tail .head))) (fun _ _ => rfl) (fun _ => rfl) (fun _ => rfl)) (SemSs_cons (SemS_assign (SemE_fnS hB c__law_steps (by kernel_rfl) (by kernel_rfl) (NameAt.look (.tail (.tail (.tail (.tail (.tail (.tail (.tail (.tail (.tail (.tail (.tail (.tail (.tail (.tail (.tail (.tail (.tail (.tail (.tail .head))))))))))))))))))) hF.nd) (by kernel_rfl) rfl (SemAs_cons rfl (SemE_locS hF (.tail (.tail .head))) (SemAs_cons rfl (SemE_slice (SemE_locS hF (.tail .head)) SemP_none (SemP_some (SemE_int _ _ _)) SemP_none (fun _ _ => ⟨_, rfl⟩)) SemAs_nil))) (SemG_ownS hF (.tail (.tail (.tail .head)))) (fun _ _ => rfl) (fun _ => rfl) (fun _ => rfl)) (SemSs_cons (SemS_asgComp1C hR hF (.tail (.tail (.tail (.tail (.tail (.tail .head)))))) rfl (by kernel_rfl) rfl (by decide) (.own (.tail (.tail (.tail .head))) .nil) rfl (by decide) (by kernel_rfl) (fun _ _ => rfl) (SemE_rangeS hB (NameAt.look (.tail (.tail (.tail (.tail (.tail (.tail (.tail (.tail (.tail (.tail (.tail (.tail (.tail (.tail (.tail (.tail (.tail (.tail (.tail (.tail .head)))))))))))))))))))) hF.nd) rfl (SemAs_cons rfl (SemE_locS hF (.tail (.tail .head))) SemAs_nil)) (SemG_ownK .head (by kernel_rfl)) SemIf_nil (SemE_comp2 hR (.loc (.loc (.loc (.own .head .nil)))) rfl (by decide) (by kernel_rfl) (fun _ _ => rfl) (SemE_capK (.tail .head) (by kernel_rfl) (by kernel_rfl)) (SemG_tupS hR (.cons rfl (SemG_locK .head (by kernel_rfl)) (.cons rfl (SemG_locK (.tail .head) (by kernel_rfl)) .nil))) (SemIf_one (SemB_cmp semEq semTru (SemE_locK (.tail .head) (by kernel_rfl) (by kernel_rfl)) (SemE_capK (.tail (.tail .head)) (by kernel_rfl) (by kernel_rfl)) rfl)) (SemE_locK .head (by kernel_rfl) (by kernel_rfl)))) (SemSs_cons (SemS_assign (SemE_fnS hB c__law_dealt (by kernel_rfl) (by kernel_rfl) (NameAt.look (.tail (.tail (.tail (.tail (.tail (.tail (.tail (.tail (.tail (.tail (.tail (.tail (.tail (.tail (.tail (.tail (.tail (.tail (.tail (.tail (.tail .head))))))))))))))))))))) hF.nd) (by kernel_rfl) rfl (SemAs_cons rfl (SemE_slice (SemE_list (SemAs_cons rfl (SemE_int _ _ _) (SemAs_cons rfl (SemE_unary semNeg (SemE_int _ _ _)) (SemAs_cons rfl (SemE_int _ _ _) (SemAs_cons rfl (SemE_int _ _ _) (SemAs_cons rfl (SemE_int _ _ _) (SemAs_cons rfl (SemE_int _ _ _) (SemAs_cons rfl (SemE_int _ _ _) SemAs_nil)))))))) SemP_none (SemP_some (SemE_locS hF (.tail (.tail .head)))) SemP_none (fun _ _ => ⟨_, rfl⟩)) (SemAs_cons rfl (SemE_locS hF (.tail .head)) SemAs_nil))) (SemG_locS hF (.tail (.tail (.tail (.tail (.tail (.tail (.tail .head)))))))) (fun _ _ => rfl) (fun _ => rfl) (fun _ => rfl)) (SemSs_cons (SemS_asgComp1 hR hF (.tail (.tail (.tail (.tail (.tail (.tail (.tail (.tail .head)))))))) rfl (by kernel_rfl) (.loc (.loc (.glob .nil))) rfl (by decide) (by kernel_rfl) (fun _ _ => rfl) (SemE_fnS hB c__law_dealt (by kernel_rfl) (by kernel_rfl) (NameAt.look (.tail (.tail (.tail (.tail (.tail (.tail (.tail (.tail (.tail (.tail (.tail (.tail (.tail (.tail (.tail (.tail (.tail (.tail (.tail (.tail (.tail .head))))))))))))))))))))) hF.nd) (by kernel_rfl) rfl (SemAs_cons rfl (SemE_slice (SemE_list (SemAs_cons rfl (SemE_int _ _ _) (SemAs_cons rfl (SemE_int _ _ _) (SemAs_cons rfl (SemE_int _ _ _) (SemAs_cons rfl (SemE_int _ _ _) (SemAs_cons rfl (SemE_int _ _ _) (SemAs_cons rfl (SemE_int _ _ _) (SemAs_cons rfl (SemE_int _ _ _) SemAs_nil)))))))) SemP_none (SemP_some (SemE_locS hF (.tail (.tail .head)))) SemP_none (fun _ _ => ⟨_, rfl⟩)) (SemAs_cons rfl (SemE_comp1 hR (.loc (.loc .nil)) rfl (by decide) (by kernel_rfl) (fun _ _ => rfl) (SemE_locS hF (.tail .head)) (SemG_locK .head (by kernel_rfl)) SemIf_nil (SemE_BinOp semDiv (SemE_locK .head (by kernel_rfl) (by kernel_rfl)) (SemE_int _ _ _))) SemAs_nil))) (SemG_locK .head (by kernel_rfl)) SemIf_nil (SemE_absS hB (by kernel_rfl) rfl (SemAs_cons rfl (SemE_locK .head (by kernel_rfl) (by kernel_rfl)) SemAs_nil))) (SemSs_cons (SemS_assign (SemE_fnS hB c__law_able (by kernel_rfl) (by kernel_rfl) (NameAt.look (.tail (.tail (.tail (.tail (.tail (.tail (.tail (.tail (.tail (.tail (.tail (.tail (.tail (.tail (.tail (.tail (.tail (.tail (.tail (.tail (.tail (.tail .head)))))))))))))))))))))) hF.nd) (by kernel_rfl) rfl (SemAs_cons rfl (SemE_sumS hB hR (NameAt.look (.tail (.tail (.tail (.tail (.tail (.tail (.tail (.tail (.tail (.tail (.tail (.tail (.tail (.tail (.tail (.tail (.tail (.tail .head)))))))))))))))))) hF.nd) rfl (SemAs_cons rfl (SemE_comp1 hR (.loc (.loc (.glob .nil))) rfl (by decide) (by kernel_rfl) (fun _ _ => rfl) (SemE_locS hF (.tail (.tail (.tail (.tail (.tail (.tail (.tail .head)))))))) (SemG_locK .head (by kernel_rfl)) SemIf_nil (SemE_absS hB (by kernel_rfl) rfl (SemAs_cons rfl (SemE_locK .head (by kernel_rfl) (by kernel_rfl)) SemAs_nil))) SemAs_nil)) (SemAs_cons rfl (SemE_locS hF (.tail (.tail (.tail (.tail (.tail (.tail (.tail .head)))))))) (SemAs_cons rfl (SemE_locS hF (.tail (.tail (.tail (.tail (.tail (.tail (.tail (.tail .head))))))))) (SemAs_cons rfl (SemE_locS hF (.tail (.tail (.tail (.tail (.tail (.tail .head))))))) SemAs_nil))))) (SemG_locS hF (.tail (.tail (.tail (.tail (.tail (.tail (.tail (.tail (.tail .head)))))))))) (fun _ _ => rfl) (fun _ => rfl) (fun _ => rfl)) (SemSs_cons (SemS_assign (SemE_fnS hB c_TopologicalSorter (by kernel_rfl) (by kernel_rfl) (NameAt.look (.tail (.tail (.tail (.tail (.tail (.tail (.tail (.tail (.tail (.tail (.tail (.tail (.tail (.tail (.tail (.tail (.tail (.tail (.tail (.tail (.tail (.tail (.tail .head))))))))))))))))))))))) hF.nd) (by kernel_rfl) rfl SemAs_nil) (SemG_locS hF (.tail (.tail (.tail (.tail (.tail (.tail (.tail (.tail (.tail (.tail .head))))))))))) (fun _ _ => rfl) (fun _ => rfl) (fun _ => rfl)) (SemSs_cons (SemS_forS hR (fun _ _ => rfl) (SemE_rangeS hB (NameAt.look (.tail (.tail (.tail (.tail (.tail (.tail (.tail (.tail (.tail (.tail (.tail (.tail (.tail (.tail (.tail (.tail (.tail (.tail (.tail (.tail .head)))))))))))))))))))) hF.nd) rfl (SemAs_cons rfl (SemE_BinOp semSub (SemE_locS hF (.tail (.tail .head))) (SemE_int _ _ _)) (SemAs_cons rfl (SemE_unary semNeg (SemE_int _ _ _)) (SemAs_cons rfl (SemE_unary semNeg (SemE_int _ _ _)) SemAs_nil)))) (SemG_locS hF (.tail (.tail (.tail (.tail (.tail (.tail (.tail (.tail (.tail (.tail (.tail .head)))))))))))) (SemSs_one (SemS_expr (SemE_mthI hB c_add m_add (by kernel_rfl) (fun _ => rfl) rfl rfl (by decide) (SemE_locS hF (.tail (.tail (.tail (.tail (.tail (.tail (.tail (.tail (.tail (.tail .head))))))))))) (SemAs_cons rfl (SemE_locS hF (.tail (.tail (.tail (.tail (.tail (.tail (.tail (.tail (.tail (.tail (.tail .head)))))))))))) SemAs_nil)) (fun _ => rfl))) SemSs_nil) (SemSs_cons (SemS_forS hR (fun _ _ => rfl) (SemE_ownS hF (.tail (.tail (.tail .head)))) (SemG_tupS hR (.cons rfl (SemG_locS hF (.tail (.tail (.tail (.tail .head))))) (.cons rfl (SemG_locS hF (.tail (.tail (.tail (.tail (.tail .head)))))) .nil))) (SemSs_one (SemS_expr (SemE_mthI hB c_add m_add (by kernel_rfl) (fun _ => rfl) rfl rfl (by decide) (SemE_locS hF (.tail (.tail (.tail (.tail (.tail (.tail (.tail (.tail (.tail (.tail .head))))))))))) (SemAs_cons rfl (SemE_locS hF (.tail (.tail (.tail (.tail (.tail .head)))))) (SemAs_cons rfl (SemE_locS hF (.tail (.tail (.tail (.tail .head))))) SemAs_nil))) (fun _ => rfl))) SemSs_nil) (SemSs_cons (SemS_tryCyc hB hR (NameAt.look (.tail (.tail (.tail (.tail (.tail (.tail (.tail (.tail (.tail (.tail (.tail (.tail (.tail (.tail (.tail (.tail (.tail (.tail (.tail (.tail (.tail (.tail (.tail (.tail (.tail .head))))))))))))))))))))))))) hF.nd) hF (.tail (.tail (.tail (.tail (.tail (.tail (.tail (.tail (.tail (.tail (.tail (.tail .head)))))))))))) (SemSs_cons (SemS_expr (SemE_mthI hB c_prepare m_prepare (by kernel_rfl) (fun _ => rfl) rfl rfl (by decide) (SemE_locS hF (.tail (.tail (.tail (.tail (.tail (.tail (.tail (.tail (.tail (.tail .head))))))))))) SemAs_nil) (fun _ => rfl)) (SemSs_one (SemS_if (SemB_cmp semLt semTru (SemE_lenS hB (NameAt.look (.tail (.tail (.tail (.tail (.tail (.tail (.tail (.tail (.tail (.tail (.tail (.tail (.tail (.tail (.tail (.tail (.tail (.tail (.tail (.tail (.tail (.tail (.tail (.tail .head)))))))))))))))))))))))) hF.nd) rfl (SemAs_cons rfl (SemE_locS hF (.tail (.tail (.tail (.tail (.tail (.tail (.tail (.tail (.tail .head)))))))))) SemAs_nil)) (SemE_locS hF (.tail (.tail .head))) rfl) (SemSs_one (SemS_ret (SemE_bool _ _ _))) SemSs_nil))) (fun ea y => (SemSs_one (SemS_if (SemB_bool (SemBs_consO (SemB_cmp semNe semTru (SemE_Subscript (semItem (fun _ _ => rfl)) (SemE_argsC hO (fun _ => rfl) (SemE_locS hF (.tail (.tail (.tail (.tail (.tail (.tail (.tail (.tail (.tail (.tail (.tail (.tail .head)))))))))))))) (SemE_int _ _ _)) (SemE_str _ _ _) rfl) (SemBs_consO (SemB_not (SemB_val semTru (SemE_fnS hB (c__law_is_ring ea y) (by kernel_rfl) (by kernel_rfl) (NameAt.look (.tail (.tail (.tail (.tail (.tail (.tail (.tail (.tail (.tail (.tail (.tail (.tail (.tail (.tail (.tail (.tail (.tail (.tail (.tail (.tail (.tail (.tail (.tail (.tail (.tail (.tail .head)))))))))))))))))))))))))) hF.nd) (by kernel_rfl) rfl (SemAs_cons rfl (SemE_Subscript (semItem (fun _ _ => rfl)) (SemE_argsC hO (fun _ => rfl) (SemE_locS hF (.tail (.tail (.tail (.tail (.tail (.tail (.tail (.tail (.tail (.tail (.tail (.tail .head)))))))))))))) (SemE_int _ _ _)) (SemAs_cons rfl (SemE_ownS hF (.tail (.tail (.tail .head)))) SemAs_nil))) (fun _ => rfl))) SemBs_nilO))) (SemSs_one (SemS_ret (SemE_bool _ _ _))) SemSs_nil)))) (SemSs_cons (SemS_assign (SemE_fnS hB c__law_run (by kernel_rfl) (by kernel_rfl) (NameAt.look (.tail (.tail (.tail (.tail (.tail (.tail (.tail (.tail (.tail (.tail (.tail (.tail (.tail (.tail (.tail (.tail (.tail (.tail (.tail (.tail (.tail (.tail (.tail (.tail (.tail (.tail (.tail .head))))))))))))))))))))))))))) hF.nd) (by kernel_rfl) rfl (SemAs_cons rfl (SemE_locS hF (.tail (.tail (.tail (.tail (.tail (.tail (.tail (.tail (.tail (.tail .head))))))))))) (SemAs_cons rfl (SemE_locS hF (.tail (.tail (.tail (.tail (.tail (.tail (.tail .head)))))))) SemAs_nil))) (SemG_locS hF (.tail (.tail (.tail (.tail (.tail (.tail (.tail (.tail (.tail (.tail (.tail (.tail (.tail .head)))))))))))))) (fun _ _ => rfl) (fun _ => rfl) (fun _ => rfl)) (SemSs_cons (SemS_if (SemB_bool (SemBs_consO (SemB_cmp semNe semTru (SemE_sortedS hB (NameAt.look (.tail (.tail (.tail (.tail (.tail (.tail (.tail (.tail (.tail (.tail (.tail (.tail (.tail (.tail (.tail (.tail (.tail (.tail (.tail (.tail (.tail (.tail (.tail (.tail (.tail (.tail (.tail (.tail .head)))))))))))))))))))))))))))) hF.nd) rfl (SemAs_cons rfl (SemE_locS hF (.tail (.tail (.tail (.tail (.tail (.tail (.tail (.tail (.tail (.tail (.tail (.tail (.tail .head)))))))))))))) SemAs_nil)) (SemE_locS hF (.tail (.tail (.tail (.tail (.tail (.tail (.tail (.tail (.tail .head)))))))))) rfl) (SemBs_consO (SemB_val semTru (SemE_mthI hB c_is_active m_is_active (by kernel_rfl) (fun _ => rfl) rfl rfl (by decide) (SemE_locS hF (.tail (.tail (.tail (.tail (.tail (.tail (.tail (.tail (.tail (.tail .head))))))))))) SemAs_nil) (fun _ => rfl)) SemBs_nilO))) (SemSs_one (SemS_ret (SemE_bool _ _ _))) SemSs_nil) (SemSs_cons (SemS_assign (SemE_list SemAs_nil) (SemG_ownS hF (.tail (.tail (.tail (.tail (.tail (.tail (.tail (.tail (.tail (.tail (.tail (.tail (.tail (.tail .head))))))))))))))) (fun _ _ => rfl) (fun _ => rfl) (fun _ => rfl)) (SemSs_cons (SemS_assign (SemE_int _ _ _) (SemG_locS hF (.tail (.tail (.tail (.tail (.tail (.tail (.tail (.tail (.tail (.tail (.tail (.tail (.tail (.tail (.tail .head)))))))))))))))) (fun _ _ => rfl) (fun _ => rfl) (fun _ => rfl)) (SemSs_cons (SemS_forS hR (fun _ _ => rfl) (SemE_locS hF (.tail (.tail (.tail (.tail (.tail (.tail (.tail (.tail (.tail (.tail (.tail (.tail (.tail .head)))))))))))))) (SemG_locS hF (.tail (.tail (.tail (.tail (.tail (.tail (.tail (.tail (.tail (.tail (.tail .head)))))))))))) (SemSs_cons (SemS_expr (SemE_mappend (fun _ => rfl) rfl rfl (by decide) (SemE_ownS hF (.tail (.tail (.tail (.tail (.tail (.tail (.tail (.tail (.tail (.tail (.tail (.tail (.tail (.tail .head))))))))))))))) (SemAs_cons rfl (SemE_BinOp semSub (SemE_Subscript (semItem (fun _ _ => rfl)) (SemE_locS hF (.tail (.tail (.tail (.tail (.tail (.tail (.tail .head)))))))) (SemE_locS hF (.tail (.tail (.tail (.tail (.tail (.tail (.tail (.tail (.tail (.tail (.tail .head))))))))))))) (SemE_locS hF (.tail (.tail (.tail (.tail (.tail (.tail (.tail (.tail (.tail (.tail (.tail (.tail (.tail (.tail (.tail .head))))))))))))))))) SemAs_nil)) (fun _ => rfl)) (SemSs_one (SemS_augN hF (.tail (.tail (.tail (.tail (.tail (.tail (.tail (.tail (.tail (.tail (.tail (.tail (.tail (.tail (.tail .head))))))))))))))) semIAdd (SemE_Subscript (semItem (fun _ _ => rfl)) (SemE_locS hF (.tail (.tail (.tail (.tail (.tail (.tail (.tail (.tail .head))))))))) (SemE_locS hF (.tail (.tail (.tail (.tail (.tail (.tail (.tail (.tail (.tail (.tail (.tail .head)))))))))))))))) SemSs_nil) (SemSs_cons (SemS_forS hR (fun _ _ => rfl) (SemE_BinOp semAdd (SemE_ownS hF (.tail (.tail (.tail (.tail (.tail (.tail (.tail (.tail (.tail (.tail (.tail (.tail (.tail (.tail .head))))))))))))))) (SemE_comp1 hR (.loc (.loc .nil)) rfl (by decide) (by kernel_rfl) (fun _ _ => rfl) (SemE_ownS hF (.tail (.tail (.tail (.tail (.tail (.tail (.tail (.tail (.tail (.tail (.tail (.tail (.tail (.tail .head))))))))))))))) (SemG_locK .head (by kernel_rfl)) SemIf_nil (SemE_BinOp semSub (SemE_locK .head (by kernel_rfl) (by kernel_rfl)) (SemE_int _ _ _)))) (SemG_ownS hF (.tail (.tail (.tail (.tail (.tail (.tail (.tail (.tail (.tail (.tail (.tail (.tail (.tail (.tail (.tail (.tail .head))))))))))))))))) (SemSs_cons (SemS_assign (SemE_minS hB hR (NameAt.look (.tail (.tail (.tail (.tail (.tail (.tail (.tail (.tail (.tail (.tail (.tail (.tail (.tail (.tail (.tail (.tail (.tail (.tail (.tail (.tail (.tail (.tail (.tail (.tail (.tail (.tail (.tail (.tail (.tail .head))))))))))))))))))))))))))))) hF.nd) rfl (SemAs_cons rfl (SemE_BinOp semAdd (SemE_comp1 hR (.loc (.loc (.own (.tail (.tail (.tail (.tail (.tail (.tail (.tail (.tail (.tail (.tail (.tail (.tail (.tail (.tail .head)))))))))))))) (.own (.tail (.tail (.tail (.tail (.tail (.tail (.tail (.tail (.tail (.tail (.tail (.tail (.tail (.tail (.tail (.tail .head)))))))))))))))) .nil)))) rfl (by decide) (by kernel_rfl) (fun _ _ => rfl) (SemE_rangeS hB (NameAt.look (.tail (.tail (.tail (.tail (.tail (.tail (.tail (.tail (.tail (.tail (.tail (.tail (.tail (.tail (.tail (.tail (.tail (.tail (.tail (.tail .head)))))))))))))))))))) hF.nd) rfl (SemAs_cons rfl (SemE_lenS hB (NameAt.look (.tail (.tail (.tail (.tail (.tail (.tail (.tail (.tail (.tail (.tail (.tail (.tail (.tail (.tail (.tail (.tail (.tail (.tail (.tail (.tail (.tail (.tail (.tail (.tail .head)))))))))))))))))))))))) hF.nd) rfl (SemAs_cons rfl (SemE_ownS hF (.tail (.tail (.tail (.tail (.tail (.tail (.tail (.tail (.tail (.tail (.tail (.tail (.tail (.tail .head))))))))))))))) SemAs_nil)) SemAs_nil)) (SemG_locK .head (by kernel_rfl)) (SemIf_one (SemB_cmp semGt semTru (SemE_Subscript (semItem (fun _ _ => rfl)) (SemE_capK (.tail .head) (by kernel_rfl) (by kernel_rfl)) (SemE_locK .head (by kernel_rfl) (by kernel_rfl))) (SemE_capK (.tail (.tail .head)) (by kernel_rfl) (by kernel_rfl)) rfl)) (SemE_locK .head (by kernel_rfl) (by kernel_rfl))) (SemE_list (SemAs_cons rfl (SemE_lenS hB (NameAt.look (.tail (.tail (.tail (.tail (.tail (.tail (.tail (.tail (.tail (.tail (.tail (.tail (.tail (.tail (.tail (.tail (.tail (.tail (.tail (.tail (.tail (.tail (.tail (.tail .head)))))))))))))))))))))))) hF.nd) rfl (SemAs_cons rfl (SemE_ownS hF (.tail (.tail (.tail (.tail (.tail (.tail (.tail (.tail (.tail (.tail (.tail (.tail (.tail (.tail .head))))))))))))))) SemAs_nil)) SemAs_nil))) SemAs_nil)) (SemG_locS hF (.tail (.tail (.tail (.tail (.tail (.tail (.tail (.tail (.tail (.tail (.tail (.tail (.tail (.tail (.tail (.tail (.tail .head)))))))))))))))))) (fun _ _ => rfl) (fun _ => rfl) (fun _ => rfl)) (SemSs_one (SemS_if (SemB_cmp semNe semTru (SemE_fnS hB c__law_able (by kernel_rfl) (by kernel_rfl) (NameAt.look (.tail (.tail (.tail (.tail (.tail (.tail (.tail (.tail (.tail (.tail (.tail (.tail (.tail (.tail (.tail (.tail (.tail (.tail (.tail (.tail (.tail (.tail .head)))))))))))))))))))))) hF.nd) (by kernel_rfl) rfl (SemAs_cons rfl (SemE_ownS hF (.tail (.tail (.tail (.tail (.tail (.tail (.tail (.tail (.tail (.tail (.tail (.tail (.tail (.tail (.tail (.tail .head))))))))))))))))) (SemAs_cons rfl (SemE_locS hF (.tail (.tail (.tail (.tail (.tail (.tail (.tail .head)))))))) (SemAs_cons rfl (SemE_locS hF (.tail (.tail (.tail (.tail (.tail (.tail (.tail (.tail .head))))))))) (SemAs_cons rfl (SemE_locS hF (.tail (.tail (.tail (.tail (.tail (.tail .head))))))) SemAs_nil))))) (SemE_sortedS hB (NameAt.look (.tail (.tail (.tail (.tail (.tail (.tail (.tail (.tail (.tail (.tail (.tail (.tail (.tail (.tail (.tail (.tail (.tail (.tail (.tail (.tail (.tail (.tail (.tail (.tail (.tail (.tail (.tail (.tail .head)))))))))))))))))))))))))))) hF.nd) rfl (SemAs_cons rfl (SemE_slice (SemE_locS hF (.tail (.tail (.tail (.tail (.tail (.tail (.tail (.tail (.tail (.tail (.tail (.tail (.tail .head)))))))))))))) SemP_none (SemP_some (SemE_locS hF (.tail (.tail (.tail (.tail (.tail (.tail (.tail (.tail (.tail (.tail (.tail (.tail (.tail (.tail (.tail (.tail (.tail .head))))))))))))))))))) SemP_none (fun _ _ => ⟨_, rfl⟩)) SemAs_nil)) rfl) (SemSs_one (SemS_ret (SemE_bool _ _ _))) SemSs_nil))) SemSs_nil) (SemSs_one (SemS_ret (SemE_bool _ _ _))))))))))))))))))))
end Mine
end
-- M4
namespace Mine
theorem comp_inv {β : Type} {g : AV → AS → (AS → Prop) → QX → Prop} {t : BD} {e : ED} {chk : Sto → Prop} {fin : List AV → Sto → Prop} {h : β → AV} (f : β → Option AV) (P : List (Option AV) → Sto → Prop) (hc : ∀ m σ, P m σ → chk σ) :
    ∀ (ys : List β) (acc : List AV) (m : List (Option AV)) (σ : Sto), P m σ → (∀ x ∈ ys, ∀ m σ, P m σ → ∀ (W₁ : AV → List (Option AV) → Sto → Prop) (W₀ : List (Option AV) → Sto → Prop), (∀ m' σ', P m' σ' → (∀ y, f x = some y → W₁ y m' σ') ∧ (f x = none → W₀ m' σ')) →
      g (h x) ⟨m, σ⟩ (fun st => t st (fun b st => (b = true → e st (fun y st => W₁ y st.m st.σ) (fun _ _ => False)) ∧ (b = false → W₀ st.m st.σ)) (fun _ _ => False)) (fun _ _ => False)) →
    (∀ m σ, P m σ → fin (acc ++ ys.filterMap f) σ) → CompN g t e chk fin (ys.map h) acc m σ
  | [], acc, m, σ, hm, _, hf => ⟨hc m σ hm, by simpa using hf m σ hm⟩
  | y :: ys, acc, m, σ, hm, step, hf => ⟨hc m σ hm, step y (.head _) m σ hm _ _ fun m' σ' hm' => ⟨fun z hz => comp_inv f P hc ys _ m' σ' hm' (fun x hx => step x (.tail _ hx)) (fun m σ h => by have := hf m σ h; rw [List.filterMap_cons, hz] at this; simpa using this), fun hz => comp_inv f P hc ys _ m' σ' hm' (fun x hx => step x (.tail _ hx)) (fun m σ h => by have := hf m σ h; rw [List.filterMap_cons, hz] at this; exact this)⟩⟩
theorem rngI_eq (n : Nat) : ∀ k : Nat, rngI (k : Int) 1 n = (List.range' k n).map fun i : Nat => (i : Int) := by
  induction n with
  | zero => exact fun _ => rfl
  | succ n ih => exact fun k => by rw [rngI, List.range'_succ, List.map_cons, ← ih (k + 1)]; rfl
theorem rngI_0 (n : Nat) : rngI 0 1 n = nI n := by rw [show (0 : Int) = ((0 : Nat) : Int) from rfl, rngI_eq, nI, List.range_eq_range']
theorem iL_idx {ns : List Int} {k : Nat} (h : k < ns.length) : idx (iL ns) k = some (.int (ns.getD k 0)) := by
  unfold idx iL
  rw [if_pos (by omega), List.getElem?_map, Int.toNat_natCast, List.getElem?_eq_getElem h, List.getD_eq_getElem?_getD, List.getElem?_eq_getElem h]
  rfl
theorem rng_small {n : Nat} (h : n < 1000) : Builtin.Range.small 0 (n : Int) 1 = true := by
  have e : Builtin.Range.rangeSize 0 (n : Int) 1 = n := by rw [rangeSize_nat]; omega
  have f : ∀ i : Int, 0 ≤ i → i < 1001 → Builtin.Range.rangeFitsLong i = true := fun i h0 h1 => by
    unfold Builtin.Range.rangeFitsLong
    rw [Bool.and_eq_true, decide_eq_true_eq, decide_eq_true_eq]; omega
  unfold Builtin.Range.small
  rw [e, f 0 (by omega) (by omega), f n (by omega) (by omega), f 1 (by omega) (by omega), if_pos (by decide), f _ (by omega) (by omega), Bool.or_true]; rfl
theorem rng_items {hm tp : Bool} {σ : Sto} {n : Nat} (h : n < 1000) : Items hm tp σ (.rng 0 (n : Int) 1) ((List.range n).map fun i : Nat => AV.int i) (fun _ => True) := by
  have := Items.rng (hm := hm) (tp := tp) (σ := σ) 0 (n : Int) 1 (rng_small h)
  rw [rangeSize_nat, rngL_eq, show ((((n : Int) - 0).toNat : Int)).toNat = n by omega, rngI_0] at this
  rw [show ((List.range n).map fun i : Nat => AV.int i) = iL (nI n) by simp [iL, nI]]
  exact this
end Mine
-- M5
namespace Mine
theorem ct181 (B : Bs) (hB : Tp B) (n : Nat) : SemC B ⟨n + 1, none⟩ (.ref 181) spDealt := by
  refine spec_pl (R' := ⟨n, none⟩) (ps := [(Str.ofString "base", .own), (Str.ofString "numbers", .own)]) (ls := []) (fk_of hB (by kernel_rfl)) (by kernel_rfl) rfl rfl (dDealt B ⟨n, none⟩ hB (okF (by kernel_rfl)) rfl).2 (by decide) (by kernel_rfl) (bind2 fun a b => by kernel_rfl) ?_
  rintro _ σ Q X ⟨b, m, base, ns, rfl, hb, hm, h0, hbl, hnl, hq⟩
  refine ⟨rfl, ?_⟩
  dsimp only [dDealt]
  dsimp only [SSeq, SAsg, SAsg2, Op2, Op1, Var, Con, lget, lset, TSet, TItem, TAttr, TTup, TGo, Tst, e_tru, SIf, SNext, SBrk, SCont, SDo, SRet, BNot, BAll, BAny, e_add, e_iadd, e_sub, e_lt, e_cmp, List.map, List.replicate, List.cons_append, List.nil_append, List.length_cons, List.length_nil, Cal, Evs, Mth, ETup, EList, EDict0, ENamed, EAnd, EOr, SFor, ESlice, EStar, EWrap, STry, SDel, SAugA, EJoin, EJs, SRaise, EArgV]
  dsimp only [EComp]
  dsimp only [SSeq, SAsg, SAsg2, Op2, Op1, Var, Con, lget, lset, TSet, TItem, TAttr, TTup, TGo, Tst, e_tru, SIf, SNext, SBrk, SCont, SDo, SRet, BNot, BAll, BAny, e_add, e_iadd, e_sub, e_lt, e_cmp, List.map, List.replicate, List.cons_append, List.nil_append, List.length_cons, List.length_nil, Cal, Evs, Mth, ETup, EList, EDict0, ENamed, EAnd, EOr, SFor, ESlice, EStar, EWrap, STry, SDel, SAugA, EJoin, EJs, SRaise, EArgV]
  refine len_list hb (by rw [iL_len]; omega) ?_
  rw [iL_len]
  refine ⟨_, _, ⟨rng_items (by omega), nofun, by simp; omega⟩, ?_⟩
  refine comp_inv (fun k : Nat => some (.int (base.getD k 0 + (pickL ns (some (k : Int)) none (some (base.length : Int))).sum))) (fun m' σ' => (∃ u, m' = [u, some (.ptr b), some (.ptr m)]) ∧ Keeps (fun _ => False) σ σ') (fun _ _ _ => trivial) _ [] _ _ ⟨⟨_, rfl⟩, fun _ _ h _ => h⟩ ?_ ?_
  · rintro k hk _ σ' ⟨⟨u, rfl⟩, K⟩ W₁ W₀ hW
    have hk := List.mem_range.mp hk
    dsimp only [SSeq, SAsg, SAsg2, Op2, Op1, Var, Con, lget, lset, TSet, TItem, TAttr, TTup, TGo, Tst, e_tru, SIf, SNext, SBrk, SCont, SDo, SRet, BNot, BAll, BAny, e_add, e_iadd, e_sub, e_lt, e_cmp, List.map, List.replicate, List.cons_append, List.nil_append, List.length_cons, List.length_nil, Cal, Evs, Mth, ETup, EList, EDict0, ENamed, EAnd, EOr, SFor, ESlice, EStar, EWrap, STry, SDel, SAugA, EJoin, EJs, SRaise, EArgV]
    refine ⟨fun _ => ?_, nofun⟩
    refine item_list (K _ _ hb id) (by rw [iL_len]; omega) (x := .int (base.getD k 0)) ?_ ?_
    · exact iL_idx hk
    refine len_list (K _ _ hb id) (by rw [iL_len]; omega) ?_
    rw [iL_len]
    refine ⟨_, some (k : Int), none, some (base.length : Int), ⟨K _ _ hm id, by rw [iL_len]; omega, rfl, rfl, rfl, ?_⟩, fun a ha => ?_⟩
    · exact fun z => h0 (List.length_eq_zero_iff.mp (by have := Option.some.inj z; omega))
    rw [show iL ns = ns.map AV.int from rfl, pickL_map]
    refine ⟨_, upd_self _ _ _, ?_⟩
    dsimp only [SSeq, SAsg, SAsg2, Op2, Op1, Var, Con, lget, lset, TSet, TItem, TAttr, TTup, TGo, Tst, e_tru, SIf, SNext, SBrk, SCont, SDo, SRet, BNot, BAll, BAny, e_add, e_iadd, e_sub, e_lt, e_cmp, List.map, List.replicate, List.cons_append, List.nil_append, List.length_cons, List.length_nil, Cal, Evs, Mth, ETup, EList, EDict0, ENamed, EAnd, EOr, SFor, ESlice, EStar, EWrap, STry, SDel, SAugA, EJoin, EJs, SRaise, EArgV]
    exact (hW _ _ ⟨⟨_, rfl⟩, K.upd (K.none ha)⟩).1 _ rfl
  · rintro _ σ' ⟨⟨u, rfl⟩, K⟩ a ha
    refine ⟨_, Sub.refl _, hq a _ (K.none ha) ((upd_self _ _ _).trans ?_) (K.upd (K.none ha))⟩
    rw [List.nil_append]
    show some (AObj.list (List.filterMap (some ∘ fun k : Nat => AV.int _) _)) = _
    rw [List.filterMap_eq_map]
    unfold iL dealt
    rw [List.map_map]; rfl
end Mine
-- M6
namespace Mine
theorem nI_mem {n : Nat} {x : Int} : x ∈ nI n ↔ 0 ≤ x ∧ x < n := by
  unfold nI
  rw [List.mem_map]
  exact ⟨fun ⟨a, h, e⟩ => by have := List.mem_range.mp h; omega, fun h => ⟨x.toNat, List.mem_range.mpr (by omega), by omega⟩⟩
theorem nI_nd (n : Nat) : (nI n).Nodup := List.nodup_range.map (f := fun i : Nat => (i : Int)) (fun a b h e => h (Int.ofNat.inj e))
theorem nI_len (n : Nat) : (nI n).length = n := by unfold nI; rw [List.length_map, List.length_range]
theorem eqv_prv (a b : PP) : PyData.eqv (.tuple [.int a.1, .int a.2]) (.tuple [.int b.1, .int b.2]) = decide (a = b) := by
  simp only [PyData.eqv, PyData.eqvAll, Bool.and_true]
  rw [Bool.eq_iff_iff, decide_eq_true_eq]
  simp [Prod.ext_iff]
theorem dataIn_list {σ : Sto} {p : Addr} {xs : List AV} {ds : List PyData} (h : σ p = some (.list xs)) (e : dats xs = some ds) : dataIn σ (.ptr p) = some (.list ds) := by
  unfold dataIn; simp only [h, e, Option.map_some]
theorem pickL_pre {l : List Int} {k : Int} (h : 0 ≤ k) : pickL (iL l) none (some k) none = iL (l.take k.toNat) := by
  rw [pickL_plain, iL_len]
  unfold iL
  show (List.map AV.int l).take (clipAt l.length k - 0) = _
  rw [← List.map_take, Nat.sub_zero]
  congr 1
  have : clipAt l.length k = min k.toNat l.length := by unfold clipAt; omega
  rw [this, ← List.take_eq_take_min]
theorem dealt_len (b n : List Int) : (dealt b n).length = b.length := by unfold dealt; rw [List.length_map, List.length_range]
theorem fmod_ok (x : Int) {y : Int} (h : 0 < y) : 0 ≤ x.fmod y ∧ x.fmod y < y := by
  rw [Int.fmod_eq_emod_of_nonneg _ (by omega)]
  exact ⟨Int.emod_nonneg _ (by omega), Int.emod_lt_of_pos _ h⟩
theorem fm_some {β : Type} (f : β → AV) (l : List β) : l.filterMap (fun x => some (f x)) = l.map f := congrFun (List.filterMap_eq_map' ..) l
theorem fm_int (f : Int → Int) (l : List Int) : l.filterMap (fun x => some (.int (f x))) = iL (l.map f) := by rw [fm_some, iL, List.map_map]; rfl
theorem k0 (σ : Sto) : Keeps (fun _ => False) σ σ := fun _ _ h _ => h
theorem iL_app (a b : List Int) : iL a ++ iL b = iL (a ++ b) := List.map_append.symm
theorem eqv_ints : ∀ a b : List Int, PyData.eqvAll (a.map .int) (b.map .int) = decide (a = b)
  | [], [] => by simp [PyData.eqvAll]
  | [], _ :: _ => by simp [PyData.eqvAll]
  | _ :: _, [] => by simp [PyData.eqvAll]
  | x :: a, y :: b => by
    rw [List.map_cons, List.map_cons, PyData.eqvAll, eqv_ints a b, PyData.eqv]
    by_cases h : x = y <;> simp [h]
theorem dats_iL : ∀ a : List Int, dats (iL a) = some (a.map .int)
  | [] => rfl
  | x :: a => by
    show dats (.int x :: iL a) = _
    simp [dats, dat, dats_iL a]
theorem depth_ints : ∀ a : List Int, PyData.depthAll (a.map .int) = 0
  | [] => rfl
  | x :: a => by rw [List.map_cons, PyData.depthAll, depth_ints a]; rfl
section
variable {σ : Sto} {p q : Addr} {a b : List Int} {Q : AV → Sto → Prop} {X : AX → Sto → Prop}
theorem dl_ok : (PyData.list (a.map .int)).depth ≤ 100 := by rw [PyData.depth, depth_ints]; omega
theorem eq_ints (h : σ p = some (.list (iL a))) (h' : σ q = some (.list (iL b))) (k : Q (.bool (decide (a = b))) σ) : oEq (.ptr p) (.ptr q) σ Q X :=
  ⟨_, _, ⟨dataIn_list h (dats_iL a), dataIn_list h' (dats_iL b), dl_ok⟩, by rw [PyData.eqv, eqv_ints]; exact k⟩
theorem ne_ints (h : σ p = some (.list (iL a))) (h' : σ q = some (.list (iL b))) (k : Q (.bool (!decide (a = b))) σ) : oNe (.ptr p) (.ptr q) σ Q X :=
  ⟨_, _, ⟨dataIn_list h (dats_iL a), dataIn_list h' (dats_iL b), dl_ok⟩, by rw [PyData.eqv, eqv_ints]; exact k⟩
theorem in_ints {n : Bool} {x : Int} (h : σ p = some (.list (iL a))) (k : Q (.bool (n ^^ a.contains x)) σ) : oIn n (.int x) (.ptr p) σ Q X := by
  refine .inl ⟨iL a, _, _, ⟨h, dats_iL a, rfl, Nat.zero_le _⟩, ?_⟩
  have : (a.map PyData.int).any (fun y => PyData.eqv y (.int x)) = a.contains x := by
    rw [List.any_map, List.contains_eq_any_beq]
    refine congrArg a.any (funext fun y => ?_)
    exact (BEq.comm : (y == x) = (x == y))
  rw [this]; exact k
end
end Mine
-- M9
namespace Mine
theorem pylong_small (x : Int) {y : Int} (h0 : y ≠ 0) (h : y.natAbs < 1000) : Builtin.divisionGoesByPylong x y = false := by
  have : y.natAbs.log2 < 10 := (Nat.log2_lt (by omega)).mpr (by omega)
  unfold Builtin.divisionGoesByPylong
  simp only [beq_iff_eq]
  rw [if_neg h0, Bool.and_eq_false_iff]
  left
  rw [decide_eq_false_iff_not]
  omega
theorem mulOk8 {x : Int} (y : Int) (h : 5 ≤ x) (h' : x ≤ 7) : IntMulOk x y := by
  rcases (by omega : x = 5 ∨ x = 6 ∨ x = 7) with rfl | rfl | rfl <;> exact IntMulOk.of_left (by decide)
theorem ct188 (B : Bs) (hB : Tp B) (n : Nat) : SemC B ⟨n + 1, none⟩ (.ref 188) spSteps := by
  refine spec_plB (R' := ⟨n, none⟩) (ps := [(Str.ofString "size", .loc), (Str.ofString "numbers", .loc)]) (ls := [(Str.ofString "steps", .loc), (Str.ofString "x", .loc), (Str.ofString "a", .loc), (Str.ofString "b", .loc)]) (fk_of hB (by kernel_rfl)) (by kernel_rfl) rfl rfl (dSteps B ⟨n, none⟩ hB (okF (by kernel_rfl)) rfl).2 (by decide) (by kernel_rfl) (bind2 fun a b => by kernel_rfl) ?_
  rintro _ σ Q X ⟨sz, p, ns, rfl, s5, s7, hp, hns, hq⟩
  refine ⟨rfl, ?_⟩
  dsimp only [dSteps]
  refine seq_split (fun st => ∃ l, σ l = none ∧ st = ⟨[some (.int sz), some (.ptr p), some (.ptr l), none, none, none], upd σ l (.list (prs [(0, 2), (1, 2), (2, 4), (0, 3)]))⟩) (fun W hW => by
    dsimp only [SSeq, SAsg, SAsg2, Op2, Op1, Var, Con, lget, lset, TSet, TItem, TAttr, TTup, TGo, Tst, e_tru, SIf, SNext, SBrk, SCont, SDo, SRet, BNot, BAll, BAny, e_add, e_iadd, e_sub, e_lt, e_cmp, List.map, List.replicate, List.cons_append, List.nil_append, List.length_cons, List.length_nil, Cal, Evs, Mth, ETup, EList, EDict0, ENamed, EAnd, EOr, SFor, ESlice, EStar, EWrap, STry, SDel, SAugA, EJoin, EJs, SRaise, EArgV]
    exact ⟨by decide, by decide, by decide, by decide, by decide, fun l hl => hW _ ⟨l, hl, rfl⟩⟩) ?_
  rintro _ ⟨l, hl, rfl⟩
  refine seq_split (fun st => Ex4 fun (u v w : Option AV) (σ' : Sto) => An3 (st = ⟨[some (.int sz), some (.ptr p), some (.ptr l), u, v, w], σ'⟩) (σ' l = some (.list (prs (stepsOf sz ns)))) (Keeps (fun _ => False) σ σ')) (fun V hV => ?_) ?_
  · dsimp only [SAsg, SAsg2, Op2, Op1, Var, Con, lget, lset, TSet, TItem, TAttr, TTup, TGo, Tst, e_tru, SIf, SNext, SBrk, SCont, SDo, SRet, BNot, BAll, BAny, e_add, e_iadd, e_sub, e_lt, e_cmp, List.map, List.replicate, List.cons_append, List.nil_append, List.length_cons, List.length_nil, Cal, Evs, Mth, ETup, EList, EDict0, ENamed, EAnd, EOr, SFor, ESlice, EStar, EWrap, STry, SDel, SAugA, EJoin, EJs, SRaise, EArgV]
    refine ⟨_, _, .list _ _ ((upd_ne _ _ (ne_new hp hl)).trans hp), ?_⟩
    refine for_rule (fun rest st => Ex6 fun (dn td : List Int) (u v w : Option AV) (σ' : Sto) => An5 (rest = iL td) (ns = dn ++ td) (st = ⟨[some (.int sz), some (.ptr p), some (.ptr l), u, v, w], σ'⟩) (σ' l = some (.list (prs (stepsOf sz dn)))) (Keeps (fun _ => False) σ σ')) _ _ ⟨[], ns, none, none, none, _, rfl, rfl, rfl, upd_self _ _ _, fun x o h _ => (upd_ne _ _ (ne_new h hl)).trans h⟩ ?_ ?_
    · rintro W _ xs _ ⟨dn, td, u, v, w, σ', e, ed, rfl, h1, K⟩ hW
      obtain ⟨x, td, rfl⟩ : ∃ x t, td = x :: t := by cases td with | nil => cases e | cons p t => exact ⟨p, t, rfl⟩
      cases e
      refine ⟨K _ _ hp id, ?_⟩
      have ld : dn.length < 100 := by have := congrArg List.length ed; rw [List.length_append] at this; omega
      have done : ∀ (v w : Option AV) σ'', σ'' l = some (.list (prs (stepsOf sz dn ++ (step1 sz x).toList))) → Keeps (fun _ => False) σ σ'' → W ⟨[some (.int sz), some (.ptr p), some (.ptr l), some (.int x), v, w], σ''⟩ := fun v w σ'' h2 K2 => hW _ ⟨dn ++ [x], td, _, _, _, _, rfl, by rw [ed, List.append_assoc]; rfl, rfl, h2.trans (by unfold stepsOf; rw [List.filterMap_append, List.append_assoc]; cases q : step1 sz x <;> simp [q]), K2⟩
      have lst : (stepsOf sz dn).length < 200 := by
        unfold stepsOf
        rw [List.length_append]
        have := List.length_filterMap_le (step1 sz) dn
        simp; omega
      clear hW
      have z1 : sz ≠ 0 := by omega
      have z2 : sz * sz ≠ 0 := by
        intro z
        rcases Int.mul_eq_zero.mp z with z | z <;> omega
      have z3 : (sz * sz).natAbs < 1000 := by
        have : sz.natAbs < 8 := by omega
        rw [Int.natAbs_mul]
        exact Nat.lt_of_le_of_lt (Nat.mul_le_mul (Nat.le_of_lt_succ this) (Nat.le_of_lt_succ this)) (by decide)
      dsimp only [SSeq, TSet, lset, SAsg, SIf, Tst, Op2, Var, lget, Con]
      refine ⟨z1, ⟨z1, pylong_small x z1 (by omega)⟩, z1, ?_⟩
      dsimp only
      refine ⟨mulOk8 _ s5 s7, ⟨z2, pylong_small x z2 z3⟩, by decide, ?_⟩
      refine eq_int ?_
      rw [e_tru]
      refine ⟨fun q => ?_, fun q => ne_int ?_⟩
      · dsimp only [SSeq, SAsg, SAsg2, Op2, Op1, Var, Con, lget, lset, TSet, TItem, TAttr, TTup, TGo, Tst, e_tru, SIf, SNext, SBrk, SCont, SDo, SRet, BNot, BAll, BAny, e_add, e_iadd, e_sub, e_lt, e_cmp, List.map, List.replicate, List.cons_append, List.nil_append, List.length_cons, List.length_nil, Cal, Evs, Mth, ETup, EList, EDict0, ENamed, EAnd, EOr, SFor, ESlice, EStar, EWrap, STry, SDel, SAugA, EJoin, EJs, SRaise, EArgV]
        refine ⟨⟨_, _, rfl, h1⟩, by decide, append_list h1 (by rw [prs_length]; omega) (done _ _ _ ((upd_self _ _ _).trans ?_) (K.upd hl))⟩
        rw [step1, if_pos (by simpa using q)]
        simp [prs, prv]
      · rw [e_tru]
        refine ⟨fun r => ?_, fun r => done _ _ _ ?_ K⟩
        · dsimp only [SSeq, SAsg, SAsg2, Op2, Op1, Var, Con, lget, lset, TSet, TItem, TAttr, TTup, TGo, Tst, e_tru, SIf, SNext, SBrk, SCont, SDo, SRet, BNot, BAll, BAny, e_add, e_iadd, e_sub, e_lt, e_cmp, List.map, List.replicate, List.cons_append, List.nil_append, List.length_cons, List.length_nil, Cal, Evs, Mth, ETup, EList, EDict0, ENamed, EAnd, EOr, SFor, ESlice, EStar, EWrap, STry, SDel, SAugA, EJoin, EJs, SRaise, EArgV]
          refine ⟨⟨_, _, rfl, h1⟩, ?_⟩
          change 0 + 1 + 1 < 1000 ∧ _
          refine ⟨by decide, append_list h1 (by rw [prs_length]; omega) (done _ _ _ ((upd_self _ _ _).trans ?_) (K.upd hl))⟩
          rw [step1, if_neg (by simpa using q), if_pos (by simpa using r)]
          simp [prs, prv]
        · rw [step1, if_neg (by simpa using q), if_neg (by simpa using r)]
          simpa using h1
    · rintro _ ⟨dn, td, u, v, w, σ', e, ed, rfl, h1, K⟩
      obtain rfl : td = [] := by cases td with | nil => rfl | cons => cases e
      rw [List.append_nil] at ed
      subst ed
      exact ⟨K _ _ hp id, hV _ ⟨_, _, _, _, rfl, h1, K⟩⟩
  · rintro _ ⟨u, v, w, σ', rfl, h1, K⟩
    exact ⟨_, Sub.refl _, hq l _ hl h1 K⟩
end Mine
-- M7
namespace Mine
theorem Reach.nd {nd br : Int → Int} {pre : Int → List Int} {n : Nat} {p q : Int} {s : List Int} (h : Reach nd br pre n p s q) : s.Nodup ∧ ∀ x ∈ s, x ∈ nI n := by
  induction h with
  | nil => exact ⟨.nil, nofun⟩
  | step h h1 h2 h3 h4 ih =>
    refine ⟨List.nodup_append.mpr ⟨ih.1, List.nodup_cons.mpr ⟨nofun, .nil⟩, fun a ha b hb e => ?_⟩, fun x hx => ?_⟩
    · rw [List.mem_singleton] at hb; exact h2 (hb ▸ e ▸ ha)
    · rcases List.mem_append.mp hx with hx | hx
      · exact ih.2 x hx
      · rw [List.mem_singleton] at hx; exact hx ▸ h1
theorem Reach.len {nd br : Int → Int} {pre : Int → List Int} {n : Nat} {p q : Int} {s : List Int} (h : Reach nd br pre n p s q) : s.length ≤ n := by
  have := sub_len h.nd.1 (nI_nd n) h.nd.2
  rwa [nI_len] at this
theorem if_split {t : BD} {a o : SD} {st : AS} {Q : Out → AS → Prop} {X : QX} (P : Bool → AS → Prop) (ht : ∀ W : Bool → AS → Prop, (∀ b st, P b st → W b st) → t st W X) (ha : ∀ st, P true st → a st Q X) (ho : ∀ st, P false st → o st Q X) : SIf t a o st Q X :=
  ht _ fun b st h => ⟨fun e => by subst e; exact ha st h, fun e => by subst e; exact ho st h⟩
noncomputable def Shut (nd : Int → Int) (pre : Int → List Int) (n : Nat) (s : List Int) (p : Int) (k : Nat) : Prop := ∀ j : Nat, j < k → (j : Int) ∉ s → nd j ≤ p → ¬ ∀ a ∈ pre j, a ∈ s
theorem bind4 {fd : FuncData} {x y z w : Str} (h : ∀ a b c d : Value, bindArgs fd ⟨[a, b, c, d], []⟩ = pure [(x, a), (y, b), (z, c), (w, d)]) : ∀ vs : List Value, vs.length = 4 → bindArgs fd ⟨vs, []⟩ = pure ([x, y, z, w].zip vs)
  | [a, b, c, d], _ => h a b c d
theorem ct193 (B : Bs) (hB : Tp B) (n : Nat) : SemC B ⟨n + 1, none⟩ (.ref 193) spAble := by
  refine spec_pl (R' := ⟨n, none⟩) (ps := [(Str.ofString "purse", .loc), (Str.ofString "needs", .loc), (Str.ofString "brings", .loc), (Str.ofString "ahead", .loc)]) (ls := [(Str.ofString "able", .own), (Str.ofString "grown", .loc), (Str.ofString "k", .loc)]) (fk_of hB (by kernel_rfl)) (by kernel_rfl) rfl rfl (dAble B ⟨n, none⟩ hB (okF (by kernel_rfl)) rfl).2 (by decide) (by kernel_rfl) (bind4 fun a b c d => by kernel_rfl) ?_
  rintro _ σ Q X ⟨p, a, b, c, ns, bs, N, pre, rfl, ha, hb, hc, hns, hbs, hN, hq⟩
  refine ⟨rfl, ?_⟩
  have kk : ∀ {k : Nat}, k < N → idx (iL ns) k = some (.int (ns.getD k 0)) ∧ idx (iL bs) k = some (.int (bs.getD k 0)) := fun h => ⟨iL_idx (by omega), iL_idx (by omega)⟩
  obtain ⟨al, hal, hrow⟩ := hc
  generalize hnd : (fun k : Int => ns.getD k.toNat 0) = nd at hq
  generalize hbr : (fun k : Int => bs.getD k.toNat 0) = br at hq
  have nd_ : ∀ k : Nat, ns.getD k 0 = nd k := fun k => by rw [← hnd]; rfl
  have br_ : ∀ k : Nat, bs.getD k 0 = br k := fun k => by rw [← hbr]; rfl
  dsimp only [dAble]
  refine seq_split (fun st => ∃ l, σ l = none ∧ st = ⟨[some (.int p), some (.ptr a), some (.ptr b), some (.ptr c), some (.ptr l), none, none], upd σ l (.list [])⟩) (fun W hW => ⟨by decide, fun l hl => hW _ ⟨l, hl, rfl⟩⟩) ?_
  rintro _ ⟨l, hl, rfl⟩
  refine seq_split (fun st => st = ⟨[some (.int p), some (.ptr a), some (.ptr b), some (.ptr c), some (.ptr l), some (.bool true), none], upd σ l (.list [])⟩) (fun W hW => hW _ rfl) ?_
  rintro _ rfl
  refine seq_split (fun st => Ex5 fun (s : List Int) (p' : Int) (g u : Option AV) (σ' : Sto) => An5 (st = ⟨[some (.int p'), some (.ptr a), some (.ptr b), some (.ptr c), some (.ptr l), g, u], σ'⟩) (σ' l = some (.list (iL s))) (Keeps (fun _ => False) σ σ') (Reach nd br pre N p s p') (Shut nd pre N s p' N)) (fun V hV => ?_) ?_
  · refine while_rule (fun m st => Ex5 fun (s : List Int) (p' : Int) (g : Bool) (u : Option AV) (σ' : Sto) => An6 (st = ⟨[some (.int p'), some (.ptr a), some (.ptr b), some (.ptr c), some (.ptr l), some (.bool g), u], σ'⟩) (σ' l = some (.list (iL s))) (Keeps (fun _ => False) σ σ') (Reach nd br pre N p s p') ((g = true → N + 1 ≤ s.length + m)) ((g = false → Shut nd pre N s p' N))) (N + 1) _ ⟨[], p, true, none, _, rfl, upd_self _ _ _, fun x o h _ => (upd_ne _ _ (ne_new h hl)).trans h, .nil p, fun _ => by simp, nofun⟩ ?_
    rintro W m _ ⟨s, p', g, u, σ', rfl, h1, K, R, hg, hs⟩ hW
    refine ⟨fun z => ?_, fun z => ?_⟩
    · cases z
      refine seq_split (fun st => st = ⟨[some (.int p'), some (.ptr a), some (.ptr b), some (.ptr c), some (.ptr l), some (.bool false), u], σ'⟩) (fun W hW => hW _ rfl) ?_
      rintro _ rfl
      have hg := hg rfl
      dsimp only [SSeq, SAsg, SAsg2, Op2, Op1, Var, Con, lget, lset, TSet, TItem, TAttr, TTup, TGo, Tst, e_tru, SIf, SNext, SBrk, SCont, SDo, SRet, BNot, BAll, BAny, e_add, e_iadd, e_sub, e_lt, e_cmp, List.map, List.replicate, List.cons_append, List.nil_append, List.length_cons, List.length_nil, Cal, Evs, Mth, ETup, EList, EDict0, ENamed, EAnd, EOr, SFor, ESlice, EStar, EWrap, STry, SDel, SAugA, EJoin, EJs, SRaise, EArgV]
      refine len_list (K _ _ ha id) (by rw [iL_len]; omega) ?_
      rw [iL_len, hns]
      refine ⟨_, _, rng_items (by omega), ?_⟩
      refine for_rule (fun rest st => Ex6 fun (k : Nat) (s1 : List Int) (p1 : Int) (g1 : Bool) (u : Option AV) (σ1 : Sto) => An8 (rest = ((List.range' k (N - k)).map fun i : Nat => AV.int i)) (k ≤ N) (st = ⟨[some (.int p1), some (.ptr a), some (.ptr b), some (.ptr c), some (.ptr l), some (.bool g1), u], σ1⟩) (σ1 l = some (.list (iL s1))) (Keeps (fun _ => False) σ σ1) (Reach nd br pre N p s1 p1) ((g1 = true → s.length + 1 ≤ s1.length)) ((g1 = false → s1.length = s.length ∧ Shut nd pre N s1 p1 k))) _ _ ⟨0, s, p', false, u, σ', by rw [List.range_eq_range', Nat.sub_zero], Nat.zero_le _, rfl, h1, K, R, nofun, fun _ => ⟨rfl, nofun⟩⟩ ?_ ?_
      · rintro W x xs _ ⟨k, s1, p1, g1, u, σ1, e, hk, rfl, h2, K1, R1, t1, f1⟩ hW
        have hk : k < N := by
          refine Nat.lt_of_le_of_ne hk fun z => ?_
          rw [z, Nat.sub_self] at e; cases e
        rw [show N - k = (N - (k + 1)) + 1 by omega, List.range'_succ] at e
        obtain ⟨rfl, rfl⟩ := List.cons.inj e
        clear e
        refine ⟨trivial, ?_⟩
        obtain ⟨k1, k2⟩ := kk hk
        have ls := R1.len
        obtain ⟨r1, r2⟩ := hrow k hk
        have skip : ¬ ((k : Int) ∉ s1 ∧ nd k ≤ p1 ∧ ∀ x ∈ pre k, x ∈ s1) → ∀ σ2, σ2 l = some (.list (iL s1)) → Keeps (fun _ => False) σ σ2 → W ⟨[some (.int p1), some (.ptr a), some (.ptr b), some (.ptr c), some (.ptr l), some (.bool g1), some (.int k)], σ2⟩ := fun z σ2 h3 K2 => hW _ ⟨k + 1, s1, p1, g1, _, σ2, rfl, hk, rfl, h3, K2, R1, t1, fun q => ⟨(f1 q).1, fun j hj x1 x2 x3 => by
          rcases Nat.lt_succ_iff_lt_or_eq.mp hj with hj | rfl
          · exact (f1 q).2 j hj x1 x2 x3
          · exact z ⟨x1, x2, x3⟩⟩⟩
        dsimp only [TSet, lset]
        refine if_split (fun t st => ∃ σ2, An4 (st = ⟨[some (.int p1), some (.ptr a), some (.ptr b), some (.ptr c), some (.ptr l), some (.bool g1), some (.int k)], σ2⟩) (σ2 l = some (.list (iL s1))) (Keeps (fun _ => False) σ σ2) ((t = true ↔ ((k : Int) ∉ s1 ∧ nd k ≤ p1 ∧ ∀ x ∈ pre k, x ∈ s1)))) (fun V hV => ?_) ?_ ?_
        · dsimp only [SSeq, SAsg, SAsg2, Op2, Op1, Var, Con, lget, lset, TSet, TItem, TAttr, TTup, TGo, Tst, e_tru, SIf, SNext, SBrk, SCont, SDo, SRet, BNot, BAll, BAny, e_add, e_iadd, e_sub, e_lt, e_cmp, List.map, List.replicate, List.cons_append, List.nil_append, List.length_cons, List.length_nil, Cal, Evs, Mth, ETup, EList, EDict0, ENamed, EAnd, EOr, SFor, ESlice, EStar, EWrap, STry, SDel, SAugA, EJoin, EJs, SRaise, EArgV]
          refine in_ints h2 ?_
          rw [e_tru]
          cases q1 : (true ^^ s1.contains (k : Int)) with
          | false => exact hV _ _ ⟨σ1, rfl, h2, K1, nofun, fun z => by simp at q1; exact absurd q1 z.1⟩
          | true =>
            have q1 : (k : Int) ∉ s1 := by simpa using q1
            refine item_list (K1 _ _ ha id) (by rw [iL_len]; omega) k1 ?_
            rw [e_cmp, e_tru, nd_]
            cases q2 : decide (nd k ≤ p1) with
            | false => exact hV _ _ ⟨σ1, rfl, h2, K1, nofun, fun z => by simp at q2; omega⟩
            | true =>
              have q2 := of_decide_eq_true q2
              dsimp only [EComp]
              dsimp only [SSeq, SAsg, SAsg2, Op2, Op1, Var, Con, lget, lset, TSet, TItem, TAttr, TTup, TGo, Tst, e_tru, SIf, SNext, SBrk, SCont, SDo, SRet, BNot, BAll, BAny, e_add, e_iadd, e_sub, e_lt, e_cmp, List.map, List.replicate, List.cons_append, List.nil_append, List.length_cons, List.length_nil, Cal, Evs, Mth, ETup, EList, EDict0, ENamed, EAnd, EOr, SFor, ESlice, EStar, EWrap, STry, SDel, SAugA, EJoin, EJs, SRaise, EArgV]
              refine item_list (K1 _ _ hal id) (by simp; omega) (x := .ptr (al k)) ?_ ?_
              · unfold idx
                rw [if_pos (by omega), List.getElem?_map, Int.toNat_natCast, List.getElem?_range hk]; rfl
              refine ⟨iL (pre k), _, ⟨.list _ _ (K1 _ _ r1 id), nofun, by rw [iL_len]; omega⟩, ?_⟩
              unfold iL
              refine comp_pure (fun x : Int => if (true ^^ s1.contains x) then some (AV.int x) else none) (fun m => ∃ u, m = [u, some (.ptr l)]) (K1 _ _ r1 id) (pre k) [] _ ⟨_, rfl⟩ ?_ ?_
              · rintro x hx _ ⟨u, rfl⟩ W₁ W₀ hW
                dsimp only [SSeq, SAsg, SAsg2, Op2, Op1, Var, Con, lget, lset, TSet, TItem, TAttr, TTup, TGo, Tst, e_tru, SIf, SNext, SBrk, SCont, SDo, SRet, BNot, BAll, BAny, e_add, e_iadd, e_sub, e_lt, e_cmp, List.map, List.replicate, List.cons_append, List.nil_append, List.length_cons, List.length_nil, Cal, Evs, Mth, ETup, EList, EDict0, ENamed, EAnd, EOr, SFor, ESlice, EStar, EWrap, STry, SDel, SAugA, EJoin, EJs, SRaise, EArgV]
                refine in_ints h2 ?_
                have hw := hW _ ⟨some (.int x), rfl⟩
                exact ⟨fun z => hw.1 _ (if_pos z), fun z => hw.2 (if_neg (by rw [z]; nofun))⟩
              · intro a' ha'
                rw [fm_iL, List.nil_append]
                refine ⟨by decide, fun a'' ha'' => ?_⟩
                have K2 := K1.upd (o := .list (iL ((pre k).filter fun x => true ^^ s1.contains x))) (K1.none ha')
                have n1 := ne_new h2 ha'
                have n2 := ne_new ((upd_ne _ _ n1).trans h2) ha''
                refine eq_ints (b := []) ((upd_ne _ _ (ne_new (upd_self _ _ _) ha'')).trans (upd_self _ _ _)) (upd_self _ _ _) ?_
                rw [e_tru]
                have e3 : (pre k).filter (fun x => true ^^ s1.contains x) = [] ↔ ∀ x ∈ pre k, x ∈ s1 := by rw [List.filter_eq_nil_iff]; simp
                cases q3 : decide ((pre k).filter (fun x => true ^^ s1.contains x) = []) with
                | false => exact hV _ _ ⟨_, rfl, (upd_ne _ _ n2).trans ((upd_ne _ _ n1).trans h2), K2.upd (K2.none ha''), nofun, fun z => absurd (e3.mpr z.2.2) (of_decide_eq_false q3)⟩
                | true => exact hV _ _ ⟨_, rfl, (upd_ne _ _ n2).trans ((upd_ne _ _ n1).trans h2), K2.upd (K2.none ha''), fun _ => ⟨q1, q2, e3.mp (of_decide_eq_true q3)⟩, fun _ => rfl⟩
        · rintro _ ⟨σ2, rfl, h3, K2, t2⟩
          obtain ⟨x1, x2, x3⟩ := t2.mp rfl
          dsimp only [SSeq, SAsg, SAsg2, Op2, Op1, Var, Con, lget, lset, TSet, TItem, TAttr, TTup, TGo, Tst, e_tru, SIf, SNext, SBrk, SCont, SDo, SRet, BNot, BAll, BAny, e_add, e_iadd, e_sub, e_lt, e_cmp, List.map, List.replicate, List.cons_append, List.nil_append, List.length_cons, List.length_nil, Cal, Evs, Mth, ETup, EList, EDict0, ENamed, EAnd, EOr, SFor, ESlice, EStar, EWrap, STry, SDel, SAugA, EJoin, EJs, SRaise, EArgV]
          refine ⟨⟨_, _, rfl, h3⟩, append_list h3 (by rw [iL_len]; omega) ?_⟩
          dsimp only [SAugN, Op2, Var, lget, lset]
          have K3 := K2.upd (o := .list (iL s1 ++ [.int k])) hl
          refine item_list (K3 _ _ hb id) (by rw [iL_len]; omega) k2 ?_
          have hbk := br_ k
          refine hW _ ⟨k + 1, s1 ++ [(k : Int)], p1 + br k, true, _, _, rfl, hk, by rw [← hbk], (upd_self _ _ _).trans (by simp [iL]), K3, .step R1 (nI_mem.mpr ⟨by omega, by omega⟩) x1 x2 x3, fun _ => ?_, nofun⟩
          rw [List.length_append, List.length_singleton]
          cases g1 with
          | true => have := t1 rfl; omega
          | false => have := (f1 rfl).1; omega
        · rintro _ ⟨σ2, rfl, h3, K2, t2⟩
          exact skip (fun z => nomatch t2.mpr z) _ h3 K2
      · rintro _ ⟨k, s1, p1, g1, u, σ1, e, hk, rfl, h2, K1, R1, t1, f1⟩
        have hk : k = N := by
          cases q : N - k with
          | zero => omega
          | succ => rw [q] at e; cases e
        subst hk
        have ls := R1.len
        have ls' := R.len
        obtain ⟨m, rfl⟩ : ∃ m', m = m' + 1 := ⟨m - 1, by omega⟩
        exact ⟨trivial, hW m _ rfl ⟨s1, p1, g1, u, σ1, rfl, h2, K1, R1, fun z => by have := t1 z; omega, fun z => (f1 z).2⟩⟩
    · cases z
      exact hV _ ⟨s, p', _, u, σ', rfl, h1, K, R, hs rfl⟩
  · rintro _ ⟨s, p', g, u, σ', rfl, h1, K, R, hs⟩
    dsimp only [SSeq, SAsg, SAsg2, Op2, Op1, Var, Con, lget, lset, TSet, TItem, TAttr, TTup, TGo, Tst, e_tru, SIf, SNext, SBrk, SCont, SDo, SRet, BNot, BAll, BAny, e_add, e_iadd, e_sub, e_lt, e_cmp, List.map, List.replicate, List.cons_append, List.nil_append, List.length_cons, List.length_nil, Cal, Evs, Mth, ETup, EList, EDict0, ENamed, EAnd, EOr, SFor, ESlice, EStar, EWrap, STry, SDel, SAugA, EJoin, EJs, SRaise, EArgV]
    have ls := R.len
    refine ⟨s, ⟨h1, by omega⟩, fun ms pm ps q hq' => ⟨_, Sub.refl _, hq q _ ms (K.none hq') (upd_self _ _ _) ⟨s, p', R, pm, ps, fun k hk => ?_⟩ (K.upd (K.none hq'))⟩⟩
    obtain ⟨k0, k1⟩ := nI_mem.mp hk
    obtain ⟨k, rfl⟩ := Int.eq_ofNat_of_zero_le k0
    exact hs k (by omega)
end Mine
-- M10
namespace Mine
theorem tell_multi : ∀ (l : List Int) (S : SS) (rs : List Int), S.rd = some rs → (∀ x ∈ l, (l.count x : Int) ≤ S.np x) →
    ∃ r', (l.foldl tellS S).rd = some (rs ++ r') ∧ r'.Nodup ∧ (∀ x, x ∈ r' ↔ x ∈ l ∧ S.np x = l.count x) ∧ (∀ x, (l.foldl tellS S).np x = S.np x - l.count x) ∧ (l.foldl tellS S).ks = S.ks ∧ (l.foldl tellS S).su = S.su ∧ (l.foldl tellS S).po = S.po ∧ (l.foldl tellS S).fi = S.fi
  | [], S, rs, h, _ => ⟨[], by rw [List.append_nil]; exact h, .nil, fun x => ⟨nofun, fun z => nomatch z.1⟩, fun x => by simp, rfl, rfl, rfl, rfl⟩
  | a :: l, S, rs, h, hc => by
    have ca := hc a (.head _)
    rw [List.count_cons_self] at ca
    have npx : ∀ x, (tellS S a).np x = S.np x - if x = a then 1 else 0 := fun x => by
      show (if x = a then S.np a - 1 else S.np x) = _
      by_cases q : x = a
      · rw [if_pos q, if_pos q, q]
      · rw [if_neg q, if_neg q, Int.sub_zero]
    have cx : ∀ x, ((a :: l).count x : Int) = l.count x + if x = a then 1 else 0 := fun x => by
      rw [List.count_cons]
      by_cases q : x = a
      · subst q; simp
      · rw [if_neg q, if_neg (by simpa using fun z : a = x => q z.symm)]; omega
    have hr : (tellS S a).rd = some (rs ++ if S.np a - 1 = 0 then [a] else []) := by
      show (if S.np a - 1 = 0 then S.rd.map (· ++ [a]) else S.rd) = _
      split
      · rw [h]; rfl
      · rw [h, List.append_nil]
    obtain ⟨r', i1, i2, i3, i4, i5, i6, i7, i8⟩ := tell_multi l (tellS S a) _ hr fun x hx => by
      have := hc x (.tail _ hx)
      rw [cx] at this
      rw [npx]; omega
    refine ⟨(if S.np a - 1 = 0 then [a] else []) ++ r', i1.trans (by rw [List.append_assoc]), ?_, fun x => ?_, fun x => ?_, i5, i6, i7, i8⟩
    · split
      · refine List.nodup_cons.mpr ⟨fun z => ?_, i2⟩
        obtain ⟨z1, z2⟩ := (i3 a).mp z
        have := List.count_pos_iff.mpr z1
        omega
      · exact i2
    · rw [List.mem_append, i3, npx, cx]
      constructor
      · rintro (z | ⟨z1, z2⟩)
        · split at z
          · rw [List.mem_singleton] at z
            subst z
            refine ⟨.head _, ?_⟩
            rw [if_pos rfl]
            omega
          · cases z
        · exact ⟨.tail _ z1, by omega⟩
      · rintro ⟨z1, z2⟩
        by_cases q : x = a
        · subst q
          rw [if_pos rfl] at z2 ⊢
          by_cases m : x ∈ l
          · exact .inr ⟨m, by omega⟩
          · left
            rw [if_pos (by have := List.count_eq_zero.mpr m; omega)]
            exact .head _
        · exact .inr ⟨(List.mem_cons.mp z1).resolve_left q, by omega⟩
    · refine (i4 x).trans ?_
      rw [npx, cx]; omega
noncomputable def left (S : SS) (ord : List Int) (q : Int) : Nat := ((S.ks.filter fun a => !ord.contains a).map fun a => (S.su a).count q).sum
theorem left_zero {S : SS} {ord : List Int} {q : Int} : left S ord q = 0 ↔ ∀ a ∈ S.ks, q ∈ S.su a → a ∈ ord := by
  unfold left
  rw [List.sum_eq_zero_iff_forall_eq_nat]
  constructor
  · intro h a ha hq
    refine Classical.byContradiction fun n => ?_
    have := h _ (List.mem_map.mpr ⟨a, List.mem_filter.mpr ⟨ha, by simpa using n⟩, rfl⟩)
    have := List.count_pos_iff.mpr hq
    omega
  · intro h x hx
    obtain ⟨a, ha, rfl⟩ := List.mem_map.mp hx
    obtain ⟨h1, h2⟩ := List.mem_filter.mp ha
    refine List.count_eq_zero.mpr fun z => ?_
    have := h a h1 z
    simp [this] at h2
theorem sum_snoc {f : Int → Nat} {p : Int} {ord : List Int} (hp : p ∉ ord) : ∀ ks : List Int, ks.Nodup →
    ((ks.filter fun a => !ord.contains a).map f).sum = ((ks.filter fun a => !(ord ++ [p]).contains a).map f).sum + if p ∈ ks then f p else 0
  | [], _ => rfl
  | a :: ks, nd => by
    obtain ⟨n1, n2⟩ := List.nodup_cons.mp nd
    have ih := sum_snoc (f := f) hp ks n2
    rw [List.filter_cons, List.filter_cons]
    by_cases q : a = p
    · subst q
      rw [if_neg n1] at ih
      simp [hp]
      simp at ih
      omega
    · have : (p ∈ a :: ks) = (p ∈ ks) := by simp [Ne.symm q]
      simp only [this]
      by_cases m : a ∈ ord
      · simp [m] at ih ⊢; exact ih
      · simp [m, q] at ih ⊢; omega
theorem left_snoc {S : SS} {ord : List Int} {p q : Int} (nk : S.ks.Nodup) (hp : p ∉ ord) (hk : p ∈ S.ks) : left S ord q = left S (ord ++ [p]) q + (S.su p).count q := by
  have := sum_snoc (f := fun a => (S.su a).count q) hp S.ks nk
  rw [if_pos hk] at this
  exact this
structure RO (S₀ S : SS) (ord wait rs : List Int) : Prop where
  ks : S.ks = S₀.ks
  su : S.su = S₀.su
  rd : S.rd = some rs
  npw : ∀ q ∈ wait, S.np q = -1
  npo : ∀ q ∈ S₀.ks, q ∉ ord → q ∉ wait → S.np q = (left S₀ ord q : Nat)
  fr : ∀ q, q ∈ wait ++ rs ↔ Free S₀ ord q
  nd : (wait ++ rs).Nodup
  fi : S.fi = ord.length
  po : S.po = (ord.length + wait.length : Nat)
section
variable {S₀ S : SS} {ord wait rs : List Int} {p : Int}
theorem RO.ready (h : RO S₀ S ord wait rs) : RO S₀ (readyS S rs) ord (wait ++ rs) [] := by
  refine ⟨h.ks, h.su, rfl, fun q hq => ?_, fun q h1 h2 h3 => ?_, fun q => by rw [List.append_nil]; exact h.fr q, by rw [List.append_nil]; exact h.nd, h.fi, ?_⟩
  · show (if q ∈ rs then (-1 : Int) else S.np q) = -1
    split
    · rfl
    · exact h.npw q ((List.mem_append.mp hq).resolve_right ‹_›)
  · show (if q ∈ rs then (-1 : Int) else S.np q) = _
    rw [if_neg fun z => h3 (List.mem_append_right _ z)]
    exact h.npo q h1 h2 fun z => h3 (List.mem_append_left _ z)
  · show S.po + (rs.length : Int) = _
    rw [h.po, List.length_append]; omega
theorem RO.start (h1 : S₀.po = 0) (h2 : S₀.fi = 0) (nk : S₀.ks.Nodup) (hn : ∀ k ∈ S₀.ks, S₀.np k = (left S₀ [] k : Nat)) : RO S₀ (prepS S₀) [] [] (S₀.ks.filter fun k => S₀.np k = 0) := by
  refine ⟨rfl, rfl, rfl, nofun, fun q hq _ _ => hn q hq, fun q => ?_, nk.filter _, h2, h1⟩
  rw [List.nil_append, List.mem_filter, decide_eq_true_eq]
  constructor
  · rintro ⟨a, b⟩
    rw [hn q a] at b
    exact ⟨a, nofun, left_zero.mp (by omega)⟩
  · rintro ⟨a, _, c⟩
    exact ⟨a, by rw [hn q a, left_zero.mpr c]; rfl⟩
theorem RO.done (h : RO S₀ S ord wait []) (nk : S₀.ks.Nodup) (hsu : ∀ k ∈ S₀.ks, ∀ s ∈ S₀.su k, s ∈ S₀.ks) (hcl : ∀ q ∈ ord, ∀ a ∈ S₀.ks, q ∈ S₀.su a → a ∈ ord) (hp : p ∈ wait) : ∃ rs', RO S₀ (doneS S p) (ord ++ [p]) (wait.erase p) rs' := by
  obtain ⟨hp0, hp2, hpn⟩ := (h.fr p).mp (by rw [List.append_nil]; exact hp)
  have ndw : wait.Nodup := by have := h.nd; rwa [List.append_nil] at this
  have frw : ∀ q, q ∈ wait ↔ Free S₀ ord q := fun q => by rw [← h.fr q, List.append_nil]
  have hs : S.su p = S₀.su p := congrFun h.su p
  have out : ∀ q, q ∈ S.su p → q ∈ S₀.ks ∧ q ∉ ord ∧ q ∉ wait ∧ q ≠ p := fun q hq => by
    rw [hs] at hq
    exact ⟨hsu p hp0 q hq, fun z => hp2 (hcl q z p hp0 hq), fun z => hp2 (((frw q).mp z).2.2 p hp0 hq), fun z => hp2 (hpn p hp0 (z ▸ hq))⟩
  have np1 : ∀ q, q ∈ S.su p → fset S.np p (-2) q = (left S₀ (ord ++ [p]) q : Nat) + ((S.su p).count q : Nat) := fun q hq => by
    obtain ⟨d, a, b, c⟩ := out q hq
    show (if q = p then (-2 : Int) else S.np q) = _
    rw [if_neg c, h.npo q d a b, left_snoc nk hp2 hp0, hs]; omega
  obtain ⟨r', i1, i2, i3, i4, i5, i6, i7, i8⟩ := tell_multi (S.su p) { S with np := fset S.np p (-2) } [] h.rd fun x hx => by have := np1 x hx; show _ ≤ fset S.np p (-2) x; omega
  refine ⟨r', ⟨i5.trans h.ks, i6.trans h.su, i1, fun q hq => ?_, fun q h1 h2 h3 => ?_, fun q => ?_, ?_, ?_, ?_⟩⟩
  · have hq1 := List.mem_of_mem_erase hq
    have hqp : q ≠ p := fun z => (List.Nodup.not_mem_erase ndw) (z ▸ hq)
    refine (i4 q).trans ?_
    rw [List.count_eq_zero.mpr fun z => (out q z).2.2.1 hq1]
    show (if q = p then (-2 : Int) else S.np q) - 0 = -1
    rw [if_neg hqp, h.npw q hq1]; rfl
  · rw [List.mem_append, List.mem_singleton, not_or] at h2
    have hw : q ∉ wait := fun z => h3 ((List.mem_erase_of_ne h2.2).mpr z)
    refine (i4 q).trans ?_
    show (if q = p then (-2 : Int) else S.np q) - _ = _
    rw [if_neg h2.2, h.npo q h1 h2.1 hw, left_snoc nk hp2 hp0, hs]; omega
  · rw [List.mem_append, i3]
    constructor
    · rintro (hq | ⟨hq, e⟩)
      · have hqp : q ≠ p := fun z => (List.Nodup.not_mem_erase ndw) (z ▸ hq)
        obtain ⟨a, b, c⟩ := (frw q).mp (List.mem_of_mem_erase hq)
        exact ⟨a, fun z => (List.mem_append.mp z).elim b fun z => hqp (List.mem_singleton.mp z), fun a ha hb => List.mem_append_left _ (c a ha hb)⟩
      · obtain ⟨d, a, b, c⟩ := out q hq
        have e : fset S.np p (-2) q = _ := e
        rw [np1 q hq] at e
        exact ⟨d, fun z => (List.mem_append.mp z).elim a fun z => c (List.mem_singleton.mp z), left_zero.mp (by omega)⟩
    · rintro ⟨a, b, c⟩
      rw [List.mem_append, List.mem_singleton, not_or] at b
      by_cases m : q ∈ S₀.su p
      · have hq : q ∈ S.su p := hs ▸ m
        refine .inr ⟨hq, ?_⟩
        show fset S.np p (-2) q = _
        rw [np1 q hq, left_zero.mpr c]; omega
      · refine .inl ((List.mem_erase_of_ne b.2).mpr ((frw q).mpr ⟨a, b.1, fun j hj hb => ?_⟩))
        exact (List.mem_append.mp (c j hj hb)).resolve_right fun z => m (List.mem_singleton.mp z ▸ hb)
  · refine List.nodup_append.mpr ⟨ndw.erase _, i2, fun a ha b hb e => ?_⟩
    exact (out b ((i3 b).mp hb).1).2.2.1 (e ▸ List.mem_of_mem_erase ha)
  · show ((S.su p).foldl tellS { S with np := fset S.np p (-2) }).fi + 1 = _
    rw [i8, List.length_append]
    show S.fi + 1 = _
    rw [h.fi]; rfl
  · show ((S.su p).foldl tellS { S with np := fset S.np p (-2) }).po = _
    rw [i7]
    show S.po = _
    have := List.length_pos_of_mem hp
    rw [h.po, List.length_append, List.length_erase_of_mem hp]
    show ((ord.length + wait.length : Nat) : Int) = ((ord.length + 1 + (wait.length - 1) : Nat) : Int)
    omega
end
end Mine
-- M11
namespace Mine
theorem RunO.facts {nd : Int → Int} {S : SS} {o : List Int} (h : RunO nd S o) : o.Nodup ∧ (∀ x ∈ o, x ∈ S.ks) ∧ ∀ q ∈ o, ∀ a ∈ S.ks, q ∈ S.su a → a ∈ o := by
  induction h with
  | nil => exact ⟨.nil, nofun, nofun⟩
  | pick h f m ih =>
    obtain ⟨i1, i2, i3⟩ := ih
    obtain ⟨f1, f2, f3⟩ := f
    refine ⟨List.nodup_append.mpr ⟨i1, List.nodup_cons.mpr ⟨nofun, .nil⟩, fun a ha b hb e => f2 (by rw [List.mem_singleton] at hb; exact hb ▸ e ▸ ha)⟩, fun x hx => ?_, fun q hq a ha hs => ?_⟩
    · rcases List.mem_append.mp hx with hx | hx
      · exact i2 x hx
      · rw [List.mem_singleton] at hx; exact hx ▸ f1
    · rcases List.mem_append.mp hq with hq | hq
      · exact List.mem_append_left _ (i3 q hq a ha hs)
      · rw [List.mem_singleton] at hq; subst hq; exact List.mem_append_left _ (f3 a ha hs)
noncomputable def prN (nd : Int → Int) (k : Int) : PP := (nd k, k)
theorem pick_perm {nd : Int → Int} {m : PP} {ys : List PP} {l : List Int} (h : (m :: ys).Perm (l.map (prN nd))) : ∃ k w', m = prN nd k ∧ l.Perm (k :: w') ∧ ys.Perm (w'.map (prN nd)) := by
  obtain ⟨k, hk, rfl⟩ := List.mem_map.mp (h.mem_iff.mp (.head _))
  have p := List.perm_cons_erase hk
  exact ⟨k, l.erase k, rfl, p, List.Perm.cons_inv (h.trans (p.map _))⟩
structure RS (ns : List Int) (nd : Int → Int) (S₀ : SS) (σ₀ : Sto) (A₀ : SA) (σ : Sto) (A : SA) (S : SS) (h o p : Addr) (ord wait w fr : List Int) (hp : List PP) : Prop where
  at_ : SAt σ A S
  ps : A.ps = A₀.ps
  so : RO S₀ S ord wait []
  ro : RunO nd S₀ ord
  hh : Held σ A S h (.list (prs hp))
  ho : Held σ A S o (.list (iL ord))
  hn : Held σ A S p (.list (iL ns))
  hpp : Hp hp
  pm : hp.Perm (w.map (prN nd))
  pw : wait.Perm (w ++ fr)
  ne : h ≠ o ∧ p ≠ h ∧ p ≠ o
  h0 : σ₀ h = none
  o0 : σ₀ o = none
  ext : ∀ a x, Held σ₀ A₀ (prepS S₀) a x → Held σ A S a x
section
variable {ns : List Int} {nd : Int → Int} {S₀ : SS} {σ₀ : Sto} {A₀ : SA} {σ : Sto} {A : SA} {S : SS} {h o p : Addr} {ord wait w fr : List Int} {hp : List PP}
theorem RS.heap (r : RS ns nd S₀ σ₀ A₀ σ A S h o p ord wait w fr hp) {hp' : List PP} {w' fr' : List Int} (h1 : Hp hp') (h2 : hp'.Perm (w'.map (prN nd))) (h3 : wait.Perm (w' ++ fr')) : RS ns nd S₀ σ₀ A₀ (upd σ h (.list (prs hp'))) A S h o p ord wait w' fr' hp' :=
  ⟨r.at_.other r.hh.2, r.ps, r.so, r.ro, r.hh.set, r.ho.other r.ne.1.symm, r.hn.other r.ne.2.1, h1, h2, h3, r.ne, r.h0, r.o0, fun a x q => (r.ext a x q).other (ne_new q.1 r.h0)⟩
theorem RS.len (r : RS ns nd S₀ σ₀ A₀ σ A S h o p ord wait w fr hp) : wait.length ≤ S₀.ks.length ∧ w.length + fr.length = wait.length ∧ hp.length = w.length ∧ ord.length ≤ S₀.ks.length := by
  refine ⟨?_, by rw [r.pw.length_eq, List.length_append], by rw [r.pm.length_eq, List.length_map], sub_len r.ro.facts.1 (r.so.ks ▸ r.at_.nk) r.ro.facts.2.1⟩
  have nw := r.so.nd
  rw [List.append_nil] at nw
  exact sub_len nw (r.so.ks ▸ r.at_.nk) fun x hx => ((r.so.fr x).mp (List.mem_append_left _ hx)).1
end
theorem RS.keeps {ns : List Int} {nd : Int → Int} {S₀ : SS} {σ₀ : Sto} {A₀ : SA} {σ σ' : Sto} {A : SA} {S : SS} {h o p : Addr} {ord wait w fr : List Int} {hp : List PP} (r : RS ns nd S₀ σ₀ A₀ σ A S h o p ord wait w fr hp) (k : Keeps (fun _ => False) σ σ') : RS ns nd S₀ σ₀ A₀ σ' A S h o p ord wait w fr hp :=
  ⟨r.at_.keeps k, r.ps, r.so, r.ro, r.hh.keeps k, r.ho.keeps k, r.hn.keeps k, r.hpp, r.pm, r.pw, r.ne, r.h0, r.o0, fun a x q => (r.ext a x q).keeps k⟩
theorem dataIn_tup {σ : Sto} (l : List Int) : dataIn σ (.tup (iL l)) = some (.tuple (l.map .int)) := by
  unfold dataIn
  simp [dat, dats_iL]
theorem test_split {c : BD} {st : AS} {X : QX} {U : Bool → AS → Prop} (P : Bool → AS → Prop) (ht : ∀ W : Bool → AS → Prop, (∀ b st, P b st → W b st) → c st W X) (h : ∀ b st, P b st → U b st) : c st U X := ht _ h
theorem if_split' {t : BD} {a o : SD} {st : AS} {Q : Out → AS → Prop} {X : QX} (P : Bool → AS → Prop) (ht : ∀ W : Bool → AS → Prop, (∀ b st, P b st → W b st) → t st W X) (ha : ∀ st, P true st → a st Q X) (ho : ∀ st, P false st → o st Q X) : SIf t a o st Q X :=
  ht _ fun b st h => ⟨fun e => by subst e; exact ha st h, fun e => by subst e; exact ho st h⟩
theorem eqv_prs : ∀ a : List PP, ∃ ds, dats (prs a) = some ds ∧ PyData.depthAll ds ≤ 1 ∧ PyData.eqvAll ds [] = a.isEmpty
  | [] => ⟨[], rfl, by decide, rfl⟩
  | p :: a => by
    obtain ⟨ds, h1, h2, h3⟩ := eqv_prs a
    refine ⟨.tuple [.int p.1, .int p.2] :: ds, ?_, ?_, rfl⟩
    · show (match dat (prv p), dats (prs a) with | some x, some xs => some (x :: xs) | _, _ => none) = _
      rw [h1]; rfl
    · simp [PyData.depthAll, PyData.depth]; omega
theorem ct205 (B : Bs) (hB : Tp B) (n : Nat) : SemC B ⟨n + 4, none⟩ (.ref 205) spRun := by
  refine spec_pl (R' := ⟨n + 3, none⟩) (ps := [(Str.ofString "sorter", .loc), (Str.ofString "needs", .loc)]) (ls := [(Str.ofString "heap", .loc), (Str.ofString "order", .loc), (Str.ofString "fresh", .loc), (Str.ofString "work", .loc)]) (fk_of hB (by kernel_rfl)) (by kernel_rfl) rfl rfl (dRun B ⟨n + 3, none⟩ hB (okF (by kernel_rfl)) rfl (meth_of hB (by kernel_rfl)) (ct155 B hB (n + 2)) (meth_of hB (by kernel_rfl)) (ct134 B hB (n + 2)) (ct28 B hB (n + 1) none) (ct35 B hB n none) (ct42 B hB n)).2 (by decide) (by kernel_rfl) (bind2 fun a b => by kernel_rfl) ?_
  rintro _ σ Q X ⟨A, S, p, ns, rfl, h, hp, hpo, hrd, hpo0, hfi, hkl, hn8, hkn, hsu, hsl, hnp, hq⟩
  refine ⟨rfl, ?_⟩
  generalize hnd : (fun k : Int => ns.getD k.toNat 0) = nd at hq
  have hle : ∀ k, left S [] k = (S.ks.map fun a => (S.su a).count k).sum := fun k => by
    unfold left
    rw [List.filter_eq_self.mpr (by simp)]
  have nk : S.ks.Nodup := h.nk
  have ndk : ∀ k ∈ S.ks, idx (iL ns) k = some (.int (nd k)) := fun k hk => by
    obtain ⟨a, b⟩ := hkn k hk
    obtain ⟨k, rfl⟩ := Int.eq_ofNat_of_zero_le a
    rw [← hnd]
    exact iL_idx b
  dsimp only [dRun]
  refine seq_split (fun st => ∃ x, σ x = none ∧ st = ⟨[some (.ptr A.ps), some (.ptr p), some (.ptr x), none, none, none], upd σ x (.list [])⟩) (fun W hW => ⟨by decide, fun x hx => hW _ ⟨x, hx, rfl⟩⟩) ?_
  rintro _ ⟨x, hx, rfl⟩
  refine seq_split (fun st => ∃ o, upd σ x (.list []) o = none ∧ st = ⟨[some (.ptr A.ps), some (.ptr p), some (.ptr x), some (.ptr o), none, none], upd (upd σ x (.list [])) o (.list [])⟩) (fun W hW => ⟨by decide, fun o ho => hW _ ⟨o, ho, rfl⟩⟩) ?_
  rintro _ ⟨o, ho, rfl⟩
  have hxo : x ≠ o := ne_new (upd_self _ _ _) ho
  have ho' : σ o = none := by rwa [upd_ne _ _ hxo.symm] at ho
  refine seq_split (fun st => Ex5 fun A' S' σ' wait fr => An2 (st = ⟨[some (.ptr A.ps), some (.ptr p), some (.ptr x), some (.ptr o), some (.tup (iL fr)), none], σ'⟩) (RS ns nd S σ A σ' A' S' x o p [] wait [] fr [])) (fun W hW => ?_) ?_
  · have a1 : SAt (upd (upd σ x (.list [])) o (.list [])) A (prepS S) := (h.other (h.new hx)).other (h.new ho')
    dsimp only [SAsg, Mth, Var, lget, Evs]
    refine ⟨isInst_of a1 rfl, A, _, _, rfl, a1, rfl, ?_, fun y hy => (List.mem_filter.mp hy).1, fun A' σ' t => hW _ ⟨A', readyS (prepS S) (S.ks.filter fun k => S.np k = 0), σ', [] ++ S.ks.filter fun k => S.np k = 0, S.ks.filter fun k => S.np k = 0, rfl, ?_⟩⟩
    · have := List.length_filter_le (fun k => decide (S.np k = 0)) S.ks
      omega
    have st := (RO.start hpo0 hfi nk fun k hk => by rw [hnp k hk, hle]).ready
    have kp : ∀ {a ob}, Held σ A (prepS S) a ob → Held σ' A' _ a ob := fun q => t.held ((q.other (ne_new q.1 hx)).other (ne_new q.1 ho'))
    exact ⟨t.at_, t.ps, st, .nil, t.held ⟨(upd_ne _ _ hxo).trans (upd_self _ _ _), h.new hx⟩, t.held ⟨upd_self _ _ _, h.new ho'⟩, kp ⟨hp, hpo⟩, Hp.nil, .refl _, .refl _, ⟨hxo, ne_new hp hx, ne_new hp ho'⟩, hx, ho', fun a ob q => kp q⟩
  rintro _ ⟨A₁, S₁, σ₁, wait, fr, rfl, r⟩
  refine seq_split (fun st => Ex6 fun (A' : SA) (S' : SS) (σ' : Sto) (ord : List Int) (f u : Option AV) => An2 (st = ⟨[some (.ptr A.ps), some (.ptr p), some (.ptr x), some (.ptr o), f, u], σ'⟩) (RS ns nd S σ A σ' A' S' x o p ord [] [] [] [])) (fun V hV => ?_) ?_
  · refine while_rule (fun m st => Ex9 fun (A' : SA) (S' : SS) (σ' : Sto) (ord wait w fr : List Int) (hp : List PP) (u : Option AV) => An3 (st = ⟨[some (.ptr A.ps), some (.ptr p), some (.ptr x), some (.ptr o), some (.tup (iL fr)), u], σ'⟩) (RS ns nd S σ A σ' A' S' x o p ord wait w fr hp) (S.ks.length ≤ ord.length + m)) S.ks.length _ ⟨A₁, S₁, σ₁, [], wait, [], fr, [], none, rfl, r, by simp⟩ ?_
    clear r
    rintro W m _ ⟨A', S', σ', ord, wait, w, fr, hp, u, rfl, r, hm⟩ hW
    refine test_split (fun b st => ∃ σ2, An3 (st = ⟨[some (.ptr A.ps), some (.ptr p), some (.ptr x), some (.ptr o), some (.tup (iL fr)), u], σ2⟩) (RS ns nd S σ A σ2 A' S' x o p ord wait w fr hp) ((b = true ↔ hp ≠ [] ∨ fr ≠ []))) (fun U hU => ?_) ?_
    · dsimp only [SSeq, SAsg, SAsg2, Op2, Op1, Var, Con, lget, lset, TSet, TItem, TAttr, TTup, TGo, Tst, e_tru, SIf, SNext, SBrk, SCont, SDo, SRet, BNot, BAll, BAny, e_add, e_iadd, e_sub, e_lt, e_cmp, List.map, List.replicate, List.cons_append, List.nil_append, List.length_cons, List.length_nil, Cal, Evs, Mth, ETup, EList, EDict0, ENamed, EAnd, EOr, SFor, ESlice, EStar, EWrap, STry, SDel, SAugA, EJoin, EJs, SRaise, EArgV]
      refine ⟨by decide, fun a ha => ?_⟩
      have r2 := r.keeps ((k0 σ').upd (o := .list []) ha)
      obtain ⟨ds, d1, d2, d3⟩ := eqv_prs hp
      refine ⟨_, _, ⟨dataIn_list r2.hh.1 d1, dataIn_list (ds := []) (upd_self _ _ _) rfl, ?_⟩, ?_⟩
      · rw [PyData.depth]; omega
      rw [PyData.eqv, d3]
      dsimp only [e_tru]
      cases hp with
      | cons y ys => exact hU _ _ ⟨_, rfl, r2, fun _ => .inl nofun, fun _ => rfl⟩
      | nil =>
        refine ⟨by decide, .tuple (fr.map .int), .tuple [], ⟨dataIn_tup fr, rfl, ?_⟩, ?_⟩
        · rw [PyData.depth, depth_ints]; omega
        rw [PyData.eqv, show ([] : List PyData) = ([] : List Int).map .int from rfl, eqv_ints]
        dsimp only [e_tru]
        cases fr with
        | nil => exact hU _ _ ⟨_, rfl, r2, nofun, fun z => by simp at z⟩
        | cons f fr => exact hU _ _ ⟨_, rfl, r2, fun _ => .inr nofun, fun _ => rfl⟩
    · rintro b _ ⟨σ2, rfl, r, hb⟩
      refine ⟨fun z => ?_, fun z => ?_⟩
      · have hb := hb.mp z
        have lr := r.len
        have wk : ∀ k ∈ wait, k ∈ S.ks := fun k hk => ((r.so.fr k).mp (List.mem_append_left _ hk)).1
        refine seq_split (fun st => Ex4 fun (u : Option AV) (σ3 : Sto) (w3 : List Int) (hp3 : List PP) => An2 (st = ⟨[some (.ptr A.ps), some (.ptr p), some (.ptr x), some (.ptr o), some (.tup (iL fr)), u], σ3⟩) (RS ns nd S σ A σ3 A' S' x o p ord wait w3 (fr.take 1) hp3)) (fun U hU => ?_) ?_
        · dsimp only [SAsg, SAsg2, Op2, Op1, Var, Con, lget, lset, TSet, TItem, TAttr, TTup, TGo, Tst, e_tru, SIf, SNext, SBrk, SCont, SDo, SRet, BNot, BAll, BAny, e_add, e_iadd, e_sub, e_lt, e_cmp, List.map, List.replicate, List.cons_append, List.nil_append, List.length_cons, List.length_nil, Cal, Evs, Mth, ETup, EList, EDict0, ENamed, EAnd, EOr, SFor, ESlice, EStar, EWrap, STry, SDel, SAugA, EJoin, EJs, SRaise, EArgV]
          refine ⟨_, rfl, by rw [iL_len]; omega, _, _, .tup _, ?_⟩
          refine for_rule (fun rest st => Ex5 fun (td : List Int) (u : Option AV) (σ3 : Sto) (w3 : List Int) (hp3 : List PP) => An3 (rest = iL td) (st = ⟨[some (.ptr A.ps), some (.ptr p), some (.ptr x), some (.ptr o), some (.tup (iL fr)), u], σ3⟩) (RS ns nd S σ A σ3 A' S' x o p ord wait w3 (fr.take 1 ++ td) hp3)) _ _ ⟨fr.drop 1, u, σ2, w, hp, by unfold iL; rw [List.map_drop], rfl, by rw [List.take_append_drop]; exact r⟩ ?_ ?_
          · rintro W' y ys _ ⟨td, u, σ3, w3, hp3, e, rfl, r3⟩ hW'
            obtain ⟨k, td, rfl⟩ : ∃ k t, td = k :: t := by cases td with | nil => cases e | cons k t => exact ⟨k, t, rfl⟩
            cases e
            refine ⟨trivial, ?_⟩
            dsimp only [SSeq, SAsg, SAsg2, Op2, Op1, Var, Con, lget, lset, TSet, TItem, TAttr, TTup, TGo, Tst, e_tru, SIf, SNext, SBrk, SCont, SDo, SRet, BNot, BAll, BAny, e_add, e_iadd, e_sub, e_lt, e_cmp, List.map, List.replicate, List.cons_append, List.nil_append, List.length_cons, List.length_nil, Cal, Evs, Mth, ETup, EList, EDict0, ENamed, EAnd, EOr, SFor, ESlice, EStar, EWrap, STry, SDel, SAugA, EJoin, EJs, SRaise, EArgV]
            have pk : wait.Perm ((k :: w3) ++ (fr.take 1 ++ td)) := r3.pw.trans ((List.perm_middle.append_left w3).trans List.perm_middle)
            have l3 := r3.len
            refine item_list r3.hn.1 (by rw [iL_len]; omega) (ndk k (wk k (pk.mem_iff.mpr (.head _)))) ⟨by decide, x, hp3, prN nd k, rfl, r3.hh.1, by omega, r3.hpp, fun ys py hy => ?_⟩
            exact hW' _ ⟨td, _, _, k :: w3, ys, rfl, rfl, r3.heap hy (py.trans (r3.pm.cons _)) pk⟩
          · rintro _ ⟨td, u, σ3, w3, hp3, e, rfl, r3⟩
            obtain rfl : td = [] := by cases td with | nil => rfl | cons => cases e
            rw [List.append_nil] at r3
            exact ⟨trivial, hU _ ⟨_, _, _, _, rfl, r3⟩⟩
        rintro _ ⟨u, σ3, w3, hp3, rfl, r3⟩
        have l3 := r3.len
        refine seq_split (fun st => Ex4 fun (k : Int) (σ4 : Sto) (w4 : List Int) (hp4 : List PP) => An3 (st = ⟨[some (.ptr A.ps), some (.ptr p), some (.ptr x), some (.ptr o), some (.tup (iL fr)), some (.int k)], σ4⟩) (RS ns nd S σ A σ4 A' S' x o p ord wait w4 [k] hp4) (∀ z ∈ wait, ¬ PL (prN nd z) (prN nd k))) (fun U hU => ?_) ?_
        · refine if_split' (fun b st => st = ⟨[some (.ptr A.ps), some (.ptr p), some (.ptr x), some (.ptr o), some (.tup (iL fr)), u], σ3⟩ ∧ (b = true ↔ fr ≠ [])) (fun U' hU' => ?_) ?_ ?_
          · dsimp only [SSeq, SAsg, SAsg2, Op2, Op1, Var, Con, lget, lset, TSet, TItem, TAttr, TTup, TGo, Tst, e_tru, SIf, SNext, SBrk, SCont, SDo, SRet, BNot, BAll, BAny, e_add, e_iadd, e_sub, e_lt, e_cmp, List.map, List.replicate, List.cons_append, List.nil_append, List.length_cons, List.length_nil, Cal, Evs, Mth, ETup, EList, EDict0, ENamed, EAnd, EOr, SFor, ESlice, EStar, EWrap, STry, SDel, SAugA, EJoin, EJs, SRaise, EArgV]
            refine ⟨by decide, .tuple (fr.map .int), .tuple [], ⟨dataIn_tup fr, rfl, by rw [PyData.depth, depth_ints]; omega⟩, ?_⟩
            rw [PyData.eqv, show ([] : List PyData) = ([] : List Int).map .int from rfl, eqv_ints]
            dsimp only [e_tru]
            exact hU' _ _ ⟨rfl, by simp⟩
          · rintro _ ⟨rfl, hf⟩
            obtain ⟨f0, fr', rfl⟩ : ∃ a b, fr = a :: b := by cases fr with | nil => exact absurd rfl (hf.mp rfl) | cons a b => exact ⟨a, b, rfl⟩
            have pk : wait.Perm (w3 ++ [f0]) := r3.pw
            have pk : wait.Perm (f0 :: w3) := pk.trans List.perm_append_comm
            dsimp only [SSeq, SAsg, SAsg2, Op2, Op1, Var, Con, lget, lset, TSet, TItem, TAttr, TTup, TGo, Tst, e_tru, SIf, SNext, SBrk, SCont, SDo, SRet, BNot, BAll, BAny, e_add, e_iadd, e_sub, e_lt, e_cmp, List.map, List.replicate, List.cons_append, List.nil_append, List.length_cons, List.length_nil, Cal, Evs, Mth, ETup, EList, EDict0, ENamed, EAnd, EOr, SFor, ESlice, EStar, EWrap, STry, SDel, SAugA, EJoin, EJs, SRaise, EArgV]
            refine ⟨.int f0, ⟨by rw [iL_len]; omega, rfl⟩, item_list r3.hn.1 (by rw [iL_len]; omega) (ndk f0 (wk f0 (pk.mem_iff.mpr (.head _)))) ⟨.int f0, ⟨by rw [iL_len]; omega, rfl⟩, by decide, x, hp3, prN nd f0, rfl, r3.hh.1, by omega, r3.hpp, fun m ys pm hmin hy => ?_⟩⟩
            obtain ⟨k, w4, rfl, e1, e2⟩ := pick_perm (l := f0 :: w3) (pm.trans (r3.pm.cons _))
            have r4 := r3.heap hy e2 (pk.trans (e1.trans (List.perm_append_comm (l₁ := [k]))))
            exact ⟨.int k, ⟨show 2 < 1000 by decide, rfl⟩, hU _ ⟨k, _, w4, ys, rfl, r4, fun z hz => hmin _ ((r3.pm.cons (prN nd f0)).mem_iff.mpr (List.mem_map_of_mem (f := prN nd) (pk.mem_iff.mp hz)))⟩⟩
          · rintro _ ⟨rfl, hf⟩
            obtain rfl : fr = [] := Classical.byContradiction fun z => nomatch hf.mpr z
            have pk : wait.Perm w3 := by have := r3.pw; rwa [List.take_nil, List.append_nil] at this
            have hne : hp3 ≠ [] := fun z => by
              have := hb.resolve_right (fun z => z rfl)
              have h5 := List.length_pos_iff.mpr this
              subst z
              have := pk.length_eq
              have := l3.2.2.1
              have := lr.2.1
              have := lr.2.2.1
              simp at *
              omega
            dsimp only [SSeq, SAsg, SAsg2, Op2, Op1, Var, Con, lget, lset, TSet, TItem, TAttr, TTup, TGo, Tst, e_tru, SIf, SNext, SBrk, SCont, SDo, SRet, BNot, BAll, BAny, e_add, e_iadd, e_sub, e_lt, e_cmp, List.map, List.replicate, List.cons_append, List.nil_append, List.length_cons, List.length_nil, Cal, Evs, Mth, ETup, EList, EDict0, ENamed, EAnd, EOr, SFor, ESlice, EStar, EWrap, STry, SDel, SAugA, EJoin, EJs, SRaise, EArgV]
            refine ⟨x, hp3, rfl, r3.hh.1, by omega, hne, r3.hpp, fun m ys pm hmin hy => ?_⟩
            obtain ⟨k, w4, rfl, e1, e2⟩ := pick_perm (pm.trans r3.pm)
            have r4 := r3.heap hy e2 (pk.trans (e1.trans (List.perm_append_comm (l₁ := [k]))))
            exact ⟨.int k, ⟨show 2 < 1000 by decide, rfl⟩, hU _ ⟨k, _, w4, ys, rfl, r4, fun z hz => hmin _ (r3.pm.mem_iff.mpr (List.mem_map_of_mem (f := prN nd) (pk.mem_iff.mp hz)))⟩⟩
        rintro _ ⟨k, σ4, w4, hp4, rfl, r4, hmin⟩
        have pk : wait.Perm (k :: w4) := r4.pw.trans List.perm_append_comm
        have kw : k ∈ wait := pk.mem_iff.mpr (.head _)
        have fk := (r4.so.fr k).mp (List.mem_append_left _ kw)
        have hsuk : S'.su k = S.su k := congrFun r4.so.su k
        obtain ⟨k0', k1'⟩ := hkn k fk.1
        obtain ⟨kn, rfl⟩ := Int.eq_ofNat_of_zero_le k0'
        dsimp only [SSeq, SDo, SAsg, Mth, Var, lget, lset, TSet, Evs]
        refine ⟨r4.ps ▸ isInst_of r4.at_ rfl, A', S', kn, [], by rw [r4.ps], r4.at_, r4.so.rd, r4.so.ks ▸ fk.1, by rw [hsuk]; have := hsl _ fk.1; simp; omega, fun s hs => r4.so.ks ▸ hsu _ fk.1 s (hsuk ▸ hs), fun z => fk.2.1 (fk.2.2 _ fk.1 (hsuk ▸ z)), r4.so.npw _ kw, fun A5 σ5 t5 => ?_⟩
        obtain ⟨rs', so5⟩ := r4.so.done nk hsu r4.ro.facts.2.2 kw
        have ro5 := RunO.pick r4.ro fk fun j fj => hmin j (by have := (r4.so.fr j).mpr fj; rwa [List.append_nil] at this)
        have ho5 := t5.held r4.ho
        refine ⟨⟨_, _, rfl, ho5.1⟩, append_list ho5.1 (by rw [iL_len]; omega) ?_⟩
        have a6 : SAt (upd σ5 o (.list (iL ord ++ [.int kn]))) A5 (doneS S' kn) := t5.at_.other ho5.2
        have p5 : A5.ps = A.ps := t5.ps.trans r4.ps
        have l6 : rs'.length ≤ S.ks.length := by
          exact sub_len (List.nodup_append.mp so5.nd).2.1 nk fun y hy => ((so5.fr y).mp (List.mem_append_right _ hy)).1
        refine ⟨p5 ▸ isInst_of a6 rfl, A5, _, rs', by rw [p5], a6, so5.rd, by omega, fun y hy => so5.ks ▸ ((so5.fr y).mp (List.mem_append_right _ hy)).1, fun A7 σ7 t7 => ?_⟩
        have kp : ∀ {a ob}, a ≠ o → Held σ4 A' S' a ob → Held σ7 A7 (readyS (doneS S' kn) rs') a ob := fun hn q => t7.held ((t5.held q).other hn)
        have lo := sub_len ro5.facts.1 nk ro5.facts.2.1
        rw [List.length_append, List.length_singleton] at lo
        obtain ⟨m, rfl⟩ : ∃ m', m = m' + 1 := ⟨m - 1, by omega⟩
        have pe : (wait.erase (kn : Int) ++ rs').Perm (w4 ++ rs') := (List.Perm.cons_inv ((List.perm_cons_erase kw).symm.trans pk)).append_right rs'
        exact hW m _ rfl ⟨A7, _, σ7, ord ++ [(kn : Int)], _, w4, rs', hp4, _, rfl, ⟨t7.at_, t7.ps.trans p5, so5.ready, ro5, kp r4.ne.1 r4.hh, (iL_app ord [(kn : Int)]) ▸ t7.held ho5.set, kp r4.ne.2.2 r4.hn, r4.hpp, r4.pm, pe, r4.ne, r4.h0, r4.o0, fun a y q => kp (ne_new q.1 r4.o0) (r4.ext a y q)⟩, by rw [List.length_append, List.length_singleton]; omega⟩
      · have hb : ¬ (hp ≠ [] ∨ fr ≠ []) := fun q => by rw [hb.mpr q] at z; cases z
        rw [not_or, Classical.not_not, Classical.not_not] at hb
        obtain ⟨rfl, rfl⟩ := hb
        have l := r.len
        obtain rfl : w = [] := List.length_eq_zero_iff.mp (by have := l.2.2.1; simp at this; omega)
        obtain rfl : wait = [] := List.length_eq_zero_iff.mp (by have := l.2.1; simp at this; omega)
        exact hV _ ⟨_, _, _, _, _, _, rfl, r⟩
  · rintro _ ⟨A', S', σ', ord, f, u, rfl, r⟩
    exact ⟨_, Sub.refl _, hq A' S' σ' o ord ho' r.ho.1 r.ro (fun k hk => nomatch (r.so.fr k).mpr hk) r.ps r.at_ r.so.rd r.so.po r.so.fi r.ext⟩
end Mine
-- M12
namespace Mine
theorem sum_perm {a b : List Int} (h : a.Perm b) : a.sum = b.sum := by
  induction h with
  | nil => rfl
  | cons x _ ih => rw [List.sum_cons, List.sum_cons, ih]
  | swap x y l => simp only [List.sum_cons]; omega
  | trans _ _ h1 h2 => exact h1.trans h2
theorem getD_app (a b : List Int) (i : Nat) (h : i < a.length) : (a ++ b).getD i 0 = a.getD i 0 := by
  rw [List.getD_eq_getElem?_getD, List.getD_eq_getElem?_getD, List.getElem?_append_left h]
theorem getD_last (a : List Int) (k : Int) : (a ++ [k]).getD a.length 0 = k := by
  rw [List.getD_eq_getElem?_getD, List.getElem?_append_right (Nat.le_refl _), Nat.sub_self]; rfl
theorem sum_sub {br : Int → Int} (h0 : ∀ k, 0 ≤ br k) : ∀ (s t : List Int), s.Nodup → (∀ x ∈ s, x ∈ t) → (s.map br).sum ≤ (t.map br).sum
  | [], t, _, _ => by
    show 0 ≤ _
    induction t with
    | nil => exact Int.le_refl _
    | cons a t ih => rw [List.map_cons, List.sum_cons]; have := h0 a; have := ih nofun; omega
  | a :: s, t, nd, h => by
    obtain ⟨n1, n2⟩ := List.nodup_cons.mp nd
    have p := List.perm_cons_erase (h a (.head _))
    have := sum_sub h0 s (t.erase a) n2 fun x hx => (List.mem_erase_of_ne (fun z : x = a => n1 (z ▸ hx))).mpr (h x (.tail _ hx))
    have e := sum_perm (p.map br)
    rw [List.map_cons, List.sum_cons] at e
    rw [List.map_cons, List.sum_cons, e]; omega
section
variable {nd br : Int → Int} {pre : Int → List Int} {n : Nat} {p q q' : Int} {s s' : List Int}
theorem Reach.sum (h : Reach nd br pre n p s q) : q = p + (s.map br).sum := by
  induction h with
  | nil => simp
  | step h h1 h2 h3 h4 ih => rw [ih, List.map_append, List.sum_append]; simp; omega
theorem Reach.sub (h0 : ∀ k, 0 ≤ br k) (h : Reach nd br pre n p s q) (h' : Reach nd br pre n p s' q') (hs : ∀ k ∈ nI n, k ∉ s' → nd k ≤ q' → ¬ ∀ a ∈ pre k, a ∈ s') : ∀ x ∈ s, x ∈ s' := by
  induction h with
  | nil => exact nofun
  | step h h1 h2 h3 h4 ih =>
    intro x hx
    rcases List.mem_append.mp hx with hx | hx
    · exact ih x hx
    · rw [List.mem_singleton] at hx
      subst hx
      refine Classical.byContradiction fun z => hs _ h1 z ?_ fun a ha => ih a (h4 a ha)
      have := sum_sub h0 _ s' h.nd.1 ih
      have := h.sum
      have := h'.sum
      omega
theorem sorted_eq {a b : List Int} (p : a.Perm b) (h1 : a.Pairwise (· ≤ ·)) (h2 : b.Pairwise (· ≤ ·)) : a = b := List.Perm.eq_of_pairwise (fun x y _ _ h h' => Int.le_antisymm h h') h1 h2 p
theorem able_eq (h0 : ∀ k, 0 ≤ br k) {ms ns : List Int} (h : AbleL nd br pre n p ms) (h' : Reach nd br pre n p s' q') (hs : ∀ k ∈ nI n, k ∉ s' → nd k ≤ q' → ¬ ∀ a ∈ pre k, a ∈ s') (hp : ns.Perm s') (hn : ns.Pairwise (· ≤ ·)) : ms = ns := by
  obtain ⟨s, q, r, pm, ps, sh⟩ := h
  refine sorted_eq (pm.trans (List.Perm.trans ?_ hp.symm)) ps hn
  exact (List.perm_ext_iff_of_nodup r.nd.1 h'.nd.1).mpr fun x => ⟨r.sub h0 h' hs x, h'.sub h0 r sh x⟩
end
section
variable {nd br : Int → Int} {pre : Int → List Int} {n : Nat} {p q : Int} {S : SS} {ord : List Int}
theorem RunO.at (h : RunO nd S ord) : ∀ i (hi : i < ord.length), Free S (ord.take i) (ord.getD i 0) ∧ ∀ j, Free S (ord.take i) j → ¬ PL (nd j, j) (nd (ord.getD i 0), ord.getD i 0) := by
  induction h with
  | nil => exact nofun
  | @pick o k h f m ih =>
    intro i hi
    rw [List.length_append, List.length_singleton] at hi
    rcases Nat.lt_succ_iff_lt_or_eq.mp hi with hi | rfl
    · rw [List.take_append_of_le_length (Nat.le_of_lt hi), getD_app _ _ _ hi]
      exact ih i hi
    · rw [List.take_append_of_le_length (Nat.le_refl _), List.take_length, getD_last]
      exact ⟨f, m⟩
structure Gr (S : SS) (n : Nat) (pre : Int → List Int) : Prop where
  ks : ∀ k, k ∈ S.ks ↔ k ∈ nI n
  pre : ∀ k ∈ nI n, ∀ a, a ∈ pre k ↔ a ∈ nI n ∧ k ∈ S.su a
theorem Gr.free (g : Gr S n pre) {o : List Int} {k : Int} : Free S o k ↔ k ∈ nI n ∧ k ∉ o ∧ ∀ a ∈ pre k, a ∈ o :=
  ⟨fun ⟨a, b, c⟩ => ⟨(g.ks k).mp a, b, fun x hx => by
    obtain ⟨y, z⟩ := (g.pre k ((g.ks k).mp a) x).mp hx
    exact c x ((g.ks x).mpr y) z⟩, fun ⟨a, b, c⟩ => ⟨(g.ks k).mpr a, b, fun x hx hs => c x ((g.pre k a x).mpr ⟨(g.ks x).mp hx, hs⟩)⟩⟩
noncomputable def lackAt (nd br : Int → Int) (ord : List Int) (i : Nat) : Int := nd (ord.getD i 0) - ((ord.take i).map br).sum
theorem run_reach (g : Gr S n pre) (h : RunO nd S ord) : ∀ i, i ≤ ord.length → (∀ j, j < i → lackAt nd br ord j ≤ p) → Reach nd br pre n p (ord.take i) (p + ((ord.take i).map br).sum)
  | 0, _, _ => by simpa using Reach.nil p
  | i + 1, hi, hl => by
    have r := run_reach g h i (by omega) fun j hj => hl j (by omega)
    obtain ⟨f1, f2, f3⟩ := g.free.mp (h.at i (by omega)).1
    have l := hl i (by omega)
    unfold lackAt at l
    have e : ord.take (i + 1) = ord.take i ++ [ord.getD i 0] := by rw [List.take_add_one, List.getD_eq_getElem?_getD, List.getElem?_eq_getElem (by omega)]; rfl
    have st := Reach.step r f1 f2 (by omega) f3
    rw [e, List.map_append, List.sum_append]
    simpa [Int.add_assoc] using st
theorem run_able (g : Gr S n pre) (h0 : ∀ k, 0 ≤ br k) (h : RunO nd S ord) (he : ∀ k, ¬ Free S ord k) {i : Nat} (hi : i ≤ ord.length) (hl : ∀ j, j < i → lackAt nd br ord j ≤ p) (hm : i < ord.length → p < lackAt nd br ord i) {ms ns : List Int} (ha : AbleL nd br pre n p ms) (hp : ns.Perm (ord.take i)) (hn : ns.Pairwise (· ≤ ·)) : ms = ns := by
  refine able_eq h0 ha (run_reach g h i hi hl) (fun k hk hs hq hpre => ?_) hp hn
  have f := g.free.mpr ⟨hk, hs, hpre⟩
  rcases Nat.lt_or_eq_of_le hi with hi | hi
  · have m := (h.at i hi).2 k f
    have l := hm hi
    unfold lackAt at l
    exact m (.inl (by show nd k < nd _; omega))
  · rw [hi, List.take_length] at f
    exact he k f
end
end Mine
-- M13
namespace Mine
section
variable {nd br : Int → Int} {pre : Int → List Int} {n : Nat} {p q : Int} {S : SS} {ord : List Int}
theorem sum_nn {br : Int → Int} (h0 : ∀ k, 0 ≤ br k) (l : List Int) : 0 ≤ (l.map br).sum := sum_sub h0 [] l .nil nofun
theorem run_most (g : Gr S n pre) (h0 : ∀ k, 0 ≤ br k) (h : RunO nd S ord) (he : ∀ k, ¬ Free S ord k) (hp : ∀ k ∈ nI n, nd k ≤ p) {ms ns : List Int} (ha : AbleL nd br pre n p ms) (hn : ns.Perm ord) (hs : ns.Pairwise (· ≤ ·)) : ms = ns := by
  refine run_able g h0 h he (Nat.le_refl _) (fun j hj => ?_) (fun z => absurd z (Nat.lt_irrefl _)) ha (by rwa [List.take_length]) hs
  have := hp _ (g.free.mp (h.at j hj).1).1
  have := sum_nn h0 (ord.take j)
  unfold lackAt; omega
theorem max_of (f : Int → Nat) : ∀ l : List Int, l ≠ [] → ∃ m ∈ l, ∀ x ∈ l, f x ≤ f m
  | [a], _ => ⟨a, .head _, fun x hx => by rw [List.mem_singleton] at hx; rw [hx]; exact Nat.le_refl _⟩
  | a :: b :: l, _ => by
    obtain ⟨m, hm, h⟩ := max_of f (b :: l) nofun
    by_cases q : f a ≤ f m
    · exact ⟨m, .tail _ hm, fun x hx => (List.mem_cons.mp hx).elim (fun e => e ▸ q) (h x)⟩
    · exact ⟨a, .head _, fun x hx => (List.mem_cons.mp hx).elim (fun e => e ▸ Nat.le_refl _) fun hx => Nat.le_trans (h x hx) (by omega)⟩
theorem able_all (g : Gr S n pre) (h0 : ∀ k, 0 ≤ br k) (hp : ∀ k ∈ nI n, nd k ≤ p) {ms : List Int} (ha : AbleL nd br pre n p ms) {rk : Int → Nat} (hr : ∀ k ∈ S.ks, ∀ s ∈ S.su k, rk s < rk k) : ms.length = n := by
  obtain ⟨s, q, r, pm, ps, sh⟩ := ha
  rw [pm.length_eq]
  refine Nat.le_antisymm r.len ?_
  have key : ∀ x ∈ nI n, x ∈ s := by
    refine Classical.byContradiction fun z => ?_
    have hne : (nI n).filter (fun x => !s.contains x) ≠ [] := fun e => z fun x hx => by
      have := (List.filter_eq_nil_iff.mp e) x hx
      simpa using this
    obtain ⟨m, hm, hx⟩ := max_of rk _ hne
    obtain ⟨m1, m2⟩ := List.mem_filter.mp hm
    have m2 : m ∉ s := by simpa using m2
    refine sh m m1 m2 ?_ fun a ha => Classical.byContradiction fun na => ?_
    · have := hp m m1
      have := r.sum
      have := sum_nn h0 s
      omega
    · obtain ⟨a1, a2⟩ := (g.pre m m1 a).mp ha
      have := hr a ((g.ks a).mpr a1) m a2
      have := hx a (List.mem_filter.mpr ⟨a1, by simpa using na⟩)
      omega
  have := sub_len (nI_nd n) r.nd.1 key
  rwa [nI_len] at this
end
theorem ringOf_of {S : SS} {r : List Int} {st : List PP} (h : Ring S r) (hs : ∀ a ∈ S.ks, ∀ b ∈ S.su a, (a, b) ∈ st) : RingOf r st := by
  obtain ⟨h2, he, hd, hm, hsu⟩ := h
  refine ⟨h2, he, hd, fun i hi => hs _ (hm _ ?_) _ (hsu i hi)⟩
  rw [List.getD_eq_getElem?_getD, List.getElem?_eq_getElem (by omega)]
  exact List.getElem_mem _
end Mine
-- M17
namespace Mine
theorem comp_rule {g : AV → AS → (AS → Prop) → QX → Prop} {t : BD} {e : ED} {chk : Sto → Prop} {fin : List AV → Sto → Prop} (I : List AV → List AV → List (Option AV) → Sto → Prop)
    (step : ∀ x xs acc m σ, I (x :: xs) acc m σ → ∀ (W₁ : AV → List (Option AV) → Sto → Prop) (W₀ : List (Option AV) → Sto → Prop), (∀ y m' σ', I xs (acc ++ [y]) m' σ' → W₁ y m' σ') → (∀ m' σ', I xs acc m' σ' → W₀ m' σ') →
      chk σ ∧ g x ⟨m, σ⟩ (fun st => t st (fun b st => (b = true → e st (fun y st => W₁ y st.m st.σ) (fun _ _ => False)) ∧ (b = false → W₀ st.m st.σ)) (fun _ _ => False)) (fun _ _ => False))
    (done : ∀ acc m σ, I [] acc m σ → chk σ ∧ fin acc σ) : ∀ (xs acc : List AV) (m : List (Option AV)) (σ : Sto), I xs acc m σ → CompN g t e chk fin xs acc m σ
  | [], acc, m, σ, h => done acc m σ h
  | x :: xs, acc, m, σ, h => step x xs acc m σ h _ _ (fun y m' σ' h' => comp_rule I step done xs _ m' σ' h') fun m' σ' h' => comp_rule I step done xs _ m' σ' h'
structure TG (S : SS) (L : List Int) (st : List PP) : Prop where
  ks : S.ks = L
  np : ∀ k ∈ L, S.np k = (st.countP fun e => e.2 == k : Nat)
  su : ∀ k ∈ L, S.su k = (st.filter fun e => e.1 == k).map (·.2)
  rd : S.rd = none
  po : S.po = 0
  fi : S.fi = 0
theorem TG.emp : TG emp [] [] := ⟨rfl, nofun, nofun, rfl, rfl, rfl⟩
theorem TG.node {S : SS} {L : List Int} {k : Int} (h : TG S L []) (hk : k ∉ L) : TG (addS S k []) (L ++ [k]) [] := by
  have hk' : k ∉ S.ks := h.ks ▸ hk
  refine ⟨?_, fun x hx => ?_, fun x hx => ?_, h.rd, h.po, h.fi⟩
  · show (if k ∈ S.ks then S.ks else S.ks ++ [k]) = _
    rw [if_neg hk', h.ks]
  · show fset (if k ∈ S.ks then S.np else fset S.np k 0) k ((if k ∈ S.ks then S.np else fset S.np k 0) k + 0) x = 0
    rw [if_neg hk']
    unfold fset
    rw [if_pos rfl]
    by_cases q : x = k
    · rw [if_pos q]; rfl
    · rw [if_neg q, if_neg q]
      exact h.np x ((List.mem_append.mp hx).resolve_right fun z => q (List.mem_singleton.mp z))
  · show (if k ∈ S.ks then S.su else fset S.su k []) x ++ [] = []
    rw [if_neg hk', List.append_nil]
    unfold fset
    by_cases q : x = k
    · rw [if_pos q]
    · rw [if_neg q]
      exact h.su x ((List.mem_append.mp hx).resolve_right fun z => q (List.mem_singleton.mp z))
theorem TG.step {S : SS} {L : List Int} {st : List PP} {a b : Int} (h : TG S L st) (ha : a ∈ L) (hb : b ∈ L) : TG (addS S b [a]) L (st ++ [(a, b)]) := by
  have hb' : b ∈ S.ks := h.ks.symm ▸ hb
  refine ⟨?_, fun x hx => ?_, fun x hx => ?_, h.rd, h.po, h.fi⟩
  · show (if b ∈ S.ks then S.ks else S.ks ++ [b]) = _
    rw [if_pos hb', h.ks]
  · show fset (if b ∈ S.ks then S.np else fset S.np b 0) b ((if b ∈ S.ks then S.np else fset S.np b 0) b + 1) x = _
    rw [if_pos hb', List.countP_append, List.countP_singleton]
    unfold fset
    by_cases q : x = b
    · subst q
      rw [if_pos rfl, if_pos (beq_self_eq_true _), h.np x hx]; rfl
    · rw [if_neg q, if_neg (by simpa using fun z : b = x => q z.symm), h.np x hx]; rfl
  · show (if b ∈ S.ks then S.su else fset S.su b []) x ++ List.replicate ([a].count x) b = _
    rw [if_pos hb', h.su x hx, List.filter_append, List.map_append]
    congr 1
    by_cases q : a = x
    · subst q; simp
    · simp [q]
section
variable {S : SS} {L : List Int} {st : List PP} {n : Nat}
theorem TG.mem (h : TG S L st) {a b : Int} (ha : a ∈ L) : b ∈ S.su a ↔ (a, b) ∈ st := by
  rw [h.su a ha, List.mem_map]
  constructor
  · rintro ⟨⟨x, y⟩, h1, rfl⟩
    obtain ⟨h2, h3⟩ := List.mem_filter.mp h1
    have h3 : x = a := by simpa using h3
    exact h3 ▸ h2
  · exact fun h => ⟨(a, b), List.mem_filter.mpr ⟨h, by simp⟩, rfl⟩
theorem TG.len (h : TG S L st) {a : Int} (ha : a ∈ L) : (S.su a).length ≤ st.length := by
  rw [h.su a ha, List.length_map]; exact List.length_filter_le _ _
theorem sum_one (e : PP) (k : Int) : ∀ L : List Int, L.Nodup → (L.map fun a => if e.1 = a ∧ e.2 = k then 1 else 0).sum = if e.1 ∈ L ∧ e.2 = k then 1 else 0
  | [], _ => by simp
  | a :: L, nd => by
    obtain ⟨n1, n2⟩ := List.nodup_cons.mp nd
    rw [List.map_cons, List.sum_cons, sum_one e k L n2]
    by_cases q : e.2 = k
    · by_cases p : e.1 = a
      · simp [p, q, n1]
      · simp [p, q]
    · simp [q]
theorem sum_add (f g : Int → Nat) : ∀ L : List Int, (L.map fun a => f a + g a).sum = (L.map f).sum + (L.map g).sum
  | [] => rfl
  | a :: L => by rw [List.map_cons, List.map_cons, List.map_cons, List.sum_cons, List.sum_cons, List.sum_cons, sum_add f g L]; omega
theorem sum_cnt (k : Int) (L : List Int) (nd : L.Nodup) : ∀ st : List PP, (∀ e ∈ st, e.1 ∈ L) → (L.map fun a => ((st.filter fun e => e.1 == a).map (·.2)).count k).sum = st.countP fun e => e.2 == k
  | [], _ => by
    have : ∀ L : List Int, (L.map fun _ => 0).sum = 0 := fun L => by
      induction L with
      | nil => rfl
      | cons a L ih => rw [List.map_cons, List.sum_cons, ih]
    exact this L
  | e :: st, h => by
    have ih := sum_cnt k L nd st fun x hx => h x (.tail _ hx)
    have e1 : ∀ a, (((e :: st).filter fun e => e.1 == a).map (·.2)).count k = ((st.filter fun e => e.1 == a).map (·.2)).count k + if e.1 = a ∧ e.2 = k then 1 else 0 := fun a => by
      rw [List.filter_cons]
      by_cases q : e.1 = a
      · rw [if_pos (by simpa using q), List.map_cons, List.count_cons]
        by_cases p : e.2 = k <;> simp [p, q]
      · rw [if_neg (by simpa using q)]
        simp [q]
    rw [show (fun a => (((e :: st).filter fun e => e.1 == a).map (·.2)).count k) = _ from funext e1, sum_add, ih, sum_one e k L nd, List.countP_cons]
    have := h e (.head _)
    by_cases p : e.2 = k <;> simp [p, this]
theorem TG.sum (h : TG S L st) (nd : L.Nodup) (hst : ∀ e ∈ st, e.1 ∈ L) {k : Int} (hk : k ∈ L) : S.np k = ((S.ks.map fun a => (S.su a).count k).sum : Nat) := by
  rw [h.np k hk, h.ks, ← sum_cnt k L nd st hst]
  congr 2
  exact List.map_congr_left fun a ha => by rw [h.su a ha]
noncomputable def preOf (st : List PP) (k : Int) : List Int := (st.filter fun e => e.2 == k).map (·.1)
theorem pre_mem {a k : Int} : a ∈ preOf st k ↔ (a, k) ∈ st := by
  unfold preOf
  rw [List.mem_map]
  constructor
  · rintro ⟨⟨x, y⟩, h1, rfl⟩
    obtain ⟨h2, h3⟩ := List.mem_filter.mp h1
    have h3 : y = k := by simpa using h3
    exact h3 ▸ h2
  · exact fun h => ⟨(a, k), List.mem_filter.mpr ⟨h, by simp⟩, rfl⟩
theorem fm_pre (k : Int) : ∀ st : List PP, st.filterMap (fun e => if (e.2 == k) = true then some (AV.int e.1) else none) = iL (preOf st k)
  | [] => rfl
  | e :: st => by
    have ih := fm_pre k st
    unfold preOf iL at ih ⊢
    rw [List.filterMap_cons, List.filter_cons]
    by_cases q : (e.2 == k) = true
    · rw [if_pos q, if_pos q, ih]; rfl
    · rw [if_neg q, if_neg q, ih]
theorem pre_len (k : Int) : (preOf st k).length ≤ st.length := by unfold preOf; rw [List.length_map]; exact List.length_filter_le _ _
theorem TG.gr (h : TG S L st) (hL : ∀ k, k ∈ L ↔ k ∈ nI n) (hst : ∀ e ∈ st, e.1 ∈ nI n) : Gr S n (preOf st) :=
  ⟨fun k => by rw [h.ks]; exact hL k, fun k _ a => by
    rw [pre_mem]
    exact ⟨fun z => ⟨hst _ z, (h.mem ((hL a).mpr (hst _ z))).mpr z⟩, fun z => (h.mem ((hL a).mpr z.1)).mp z.2⟩⟩
end
theorem steps_in {N : Nat} (h5 : 5 ≤ N) {ns : List Int} : ∀ e ∈ stepsOf N ns, e.1 ∈ nI N ∧ e.2 ∈ nI N := by
  intro e he
  have m := fun x : Int => fmod_ok x (y := (N : Int)) (by omega)
  have mm : ∀ x y : Int, x.fmod N ∈ nI N := fun x y => nI_mem.mpr (m x)
  unfold stepsOf at he
  rcases List.mem_append.mp he with he | he
  · simp only [List.mem_cons, List.not_mem_nil, or_false] at he
    rcases he with rfl | rfl | rfl | rfl <;> exact ⟨nI_mem.mpr (by dsimp only; omega), nI_mem.mpr (by dsimp only; omega)⟩
  · obtain ⟨x, _, hx⟩ := List.mem_filterMap.mp he
    unfold step1 at hx
    have h1 := m x
    have h2 := m (x.fdiv N)
    split at hx
    · cases hx; exact ⟨nI_mem.mpr h1, nI_mem.mpr h2⟩
    · split at hx
      · cases hx
        refine ⟨nI_mem.mpr ?_, nI_mem.mpr ?_⟩ <;> dsimp only <;> omega
      · cases hx
theorem steps_len {N : Int} {ns : List Int} : (stepsOf N ns).length ≤ 4 + ns.length := by
  unfold stepsOf
  rw [List.length_append]
  have := List.length_filterMap_le (step1 N) ns
  simp; omega
theorem down_items {hm tp : Bool} {σ : Sto} {N : Nat} (h5 : 5 ≤ N) (h7 : N ≤ 7) : Items hm tp σ (.rng ((N : Int) - 1) (-1) (-1)) (iL (nI N).reverse) (fun _ => True) := by
  obtain rfl | rfl | rfl : N = 5 ∨ N = 6 ∨ N = 7 := by omega
  · exact .rng 4 (-1) (-1) (by decide)
  · exact .rng 5 (-1) (-1) (by decide)
  · exact .rng 6 (-1) (-1) (by decide)
theorem Keeps.trans {σ₁ σ₂ σ₃ : Sto} (a : Keeps (fun _ => False) σ₁ σ₂) (b : Keeps (fun _ => False) σ₂ σ₃) : Keeps (fun _ => False) σ₁ σ₃ := fun x o h1 h2 => b x o (a x o h1 h2) h2
theorem Rows.keeps {σ σ' : Sto} {ah : Addr} {n : Nat} {pre : Int → List Int} (h : Rows σ ah n pre) (K : Keeps (fun _ => False) σ σ') : Rows σ' ah n pre := by
  obtain ⟨al, h1, h2⟩ := h
  exact ⟨al, K _ _ h1 id, fun i hi => ⟨K _ _ (h2 i hi).1 id, (h2 i hi).2⟩⟩
theorem many_ok {ls : List Int} {p m : Int} (h : m ∈ (nI ls.length).filter (fun k => decide (p < ls.getD k.toNat 0)) ++ [(ls.length : Int)]) (hm : ∀ x ∈ (nI ls.length).filter (fun k => decide (p < ls.getD k.toNat 0)) ++ [(ls.length : Int)], m ≤ x) :
    ∃ i : Nat, m = i ∧ i ≤ ls.length ∧ (∀ j, j < i → ls.getD j 0 ≤ p) ∧ (i < ls.length → p < ls.getD i 0) := by
  have h0 : 0 ≤ m ∧ m ≤ ls.length ∧ (m < ls.length → p < ls.getD m.toNat 0) := by
    rcases List.mem_append.mp h with h | h
    · obtain ⟨h1, h2⟩ := List.mem_filter.mp h
      have := nI_mem.mp h1
      exact ⟨this.1, by omega, fun _ => of_decide_eq_true h2⟩
    · rw [List.mem_singleton] at h
      exact ⟨by omega, by omega, fun z => by omega⟩
  obtain ⟨i, rfl⟩ := Int.eq_ofNat_of_zero_le h0.1
  refine ⟨i, rfl, by omega, fun j hj => Int.not_lt.mp fun z => ?_, fun z => by have := h0.2.2 (by omega); rwa [Int.toNat_natCast] at this⟩
  have := hm (j : Int) (List.mem_append_left _ (List.mem_filter.mpr ⟨nI_mem.mpr (by omega), by rw [Int.toNat_natCast]; exact decide_eq_true z⟩))
  omega
theorem lack_at {nd br : Int → Int} {dn td : List Int} {c : Int} : lackAt nd br (dn ++ c :: td) dn.length = nd c - (dn.map br).sum := by
  unfold lackAt
  rw [List.take_left, List.getD_eq_getElem?_getD, List.getElem?_append_right (Nat.le_refl _), Nat.sub_self]; rfl
theorem fm_many (ls : List Int) (c : Int) (n : Nat) : (List.range n).filterMap (fun k : Nat => if c < ls.getD k 0 then some (AV.int k) else none) = iL ((nI n).filter fun k => decide (c < ls.getD k.toNat 0)) := by
  have : ∀ l : List Nat, l.filterMap (fun k : Nat => if c < ls.getD k 0 then some (AV.int k) else none) = iL ((l.map fun i : Nat => (i : Int)).filter fun k => decide (c < ls.getD k.toNat 0)) := fun l => by
    induction l with
    | nil => rfl
    | cons a l ih =>
      rw [List.filterMap_cons, List.map_cons, List.filter_cons, ih, Int.toNat_natCast]
      by_cases q : c < ls.getD a 0
      · rw [if_pos q, if_pos (decide_eq_true q)]; rfl
      · rw [if_neg q, if_neg (by simpa using q)]
  exact this _
theorem ne_nodes {σ : Sto} {Q : AV → Sto → Prop} {X : AX → Sto → Prop} (h : Q (.bool false) σ) : oNe (.str nodesIn) (.str nodesIn) σ Q X := by
  have e : dataIn σ (.str nodesIn) = some (.str nodesIn) := by
    show (if PyData.strOk nodesIn = true then _ else _) = _
    rw [if_pos (by decide +kernel)]
  refine ⟨_, _, ⟨e, e, by simp [PyData.depth]⟩, ?_⟩
  rw [show PyData.eqv (.str nodesIn) (.str nodesIn) = true by decide +kernel]
  exact h
theorem abs_nn (ds : List Int) (k : Nat) : 0 ≤ (ds.map fun x => if x < 0 then -x else x).getD k 0 := by
  rw [List.getD_eq_getElem?_getD, List.getElem?_map]
  cases ds[k]? with
  | none => exact Int.le_refl _
  | some x => show 0 ≤ (if x < 0 then -x else x); split <;> omega
theorem le_abs_sum {ns : List Int} {k : Nat} : ns.getD k 0 ≤ (ns.map fun x => if x < 0 then -x else x).sum := by
  have nn : ∀ l : List Int, 0 ≤ (l.map fun x => if x < 0 then -x else x).sum := fun l => by
    induction l with
    | nil => exact Int.le_refl _
    | cons a l ih => rw [List.map_cons, List.sum_cons]; split <;> omega
  induction ns generalizing k with
  | nil => simp
  | cons a l ih =>
    have := nn l
    rw [List.map_cons, List.sum_cons]
    cases k with
    | zero => show a ≤ _; split <;> omega
    | succ k =>
      have := ih (k := k)
      show l.getD k 0 ≤ _
      split <;> omega
end Mine
-- N6
namespace Mine
theorem ring_last {r : List Int} (h1 : 2 ≤ r.length) (h2 : r.head? = r.getLast?) : r.getD 0 0 = r.getD (r.length - 1) 0 := by
  rw [List.head?_eq_getElem?, List.getLast?_eq_getElem?] at h2
  rw [List.getD_eq_getElem?_getD, List.getD_eq_getElem?_getD, h2]
theorem ring_len {r ys : List Int} (h1 : 2 ≤ r.length) (h2 : r.head? = r.getLast?) (h3 : r.dropLast.Nodup) (y1 : ys.Nodup) (y2 : ∀ k, k ∈ ys ↔ k ∈ r) : ys.length = r.length - 1 := by
  rw [← List.length_dropLast]
  refine ((List.perm_ext_iff_of_nodup y1 h3).mpr fun k => ?_).length_eq
  rw [y2]
  match r, h1, h2 with
  | x :: y :: r, _, h2 =>
    have e : (x :: y :: r) = (x :: y :: r).dropLast ++ [x] := by
      have := List.dropLast_concat_getLast (List.cons_ne_nil x (y :: r))
      rw [List.getLast?_eq_some_getLast (List.cons_ne_nil x (y :: r)), List.head?_cons] at h2
      rw [← Option.some.inj h2] at this
      exact this.symm
    constructor
    · intro h
      rw [e] at h
      rcases List.mem_append.mp h with h | h
      · exact h
      · rw [List.mem_singleton] at h
        rw [h, List.dropLast_cons_cons]
        exact .head _
    · exact fun h => (List.dropLast_sublist _).subset h
theorem ring_items {hm tp : Bool} {σ : Sto} {n : Nat} (h0 : 1 ≤ n) (h : n < 900) : Items hm tp σ (.rng 1 (n : Int) 1) ((List.range' 1 (n - 1)).map fun i : Nat => AV.int i) (fun _ => True) := by
  have e : Builtin.Range.rangeSize 1 (n : Int) 1 = ((n - 1 : Nat) : Int) := by rw [rangeSize_nat]; omega
  have f : ∀ i : Int, 0 ≤ i → i < 1001 → Builtin.Range.rangeFitsLong i = true := fun i h0 h1 => by
    unfold Builtin.Range.rangeFitsLong
    rw [Bool.and_eq_true, decide_eq_true_eq, decide_eq_true_eq]; omega
  have sm : Builtin.Range.small 1 (n : Int) 1 = true := by
    unfold Builtin.Range.small
    rw [e, f n (by omega) (by omega), f 1 (by omega) (by omega), if_pos (by decide), f ((n : Int) + (1 - 1)) (by omega) (by omega), f ((n - 1 : Nat) : Int) (by omega) (by omega), Bool.or_true]
    simp only [Bool.and_self]
  have := Items.rng (hm := hm) (tp := tp) (σ := σ) 1 (n : Int) 1 sm
  rw [e, Int.toNat_natCast, rngL_eq, show rngI 1 1 (n - 1) = _ from rngI_eq (n - 1) 1] at this
  unfold iL at this
  rw [List.map_map] at this
  exact this
theorem dats_prs : ∀ st : List PP, dats (prs st) = some (st.map fun a => .tuple [.int a.1, .int a.2])
  | [] => rfl
  | a :: st => by
    show dats (prv a :: prs st) = _
    simp only [dats, dats_prs st]
    rfl
theorem notin_prs {σ : Sto} {Q : AV → Sto → Prop} {X : AX → Sto → Prop} {b : Addr} {st : List PP} {x y : Int} (hb : σ b = some (.list (prs st))) (hm : (x, y) ∈ st) (h : Q (.bool false) σ) : oIn true (.tup [.int x, .int y]) (.ptr b) σ Q X := by
  refine .inl ⟨_, _, _, ⟨hb, dats_prs st, rfl, by simp [PyData.depth, PyData.depthAll]⟩, ?_⟩
  have : (st.map fun a : PP => PyData.tuple [.int a.1, .int a.2]).any (fun z => PyData.eqv z (.tuple [.int x, .int y])) = true := by
    rw [List.any_map, List.any_eq_true]
    exact ⟨(x, y), hm, (eqv_prv (x, y) (x, y)).trans (decide_eq_true rfl)⟩
  rw [this]
  exact h
theorem ct198 (B : Bs) (hB : Tp B) (n : Nat) (ea : Addr) (y : AX) : SemC B ⟨n + 1, some (ea, y)⟩ (.ref 198) spRing := by
  refine spec_pl (R' := ⟨n, some (ea, y)⟩) (ps := [(Str.ofString "told", .own), (Str.ofString "steps", .own)]) (ls := []) (fk_of hB (by kernel_rfl)) (by kernel_rfl) rfl rfl (dRing B ⟨n, some (ea, y)⟩ hB (okF (by kernel_rfl)) rfl).2 (by decide) (by kernel_rfl) (bind2 fun a b => by kernel_rfl) ?_
  rintro _ σ Q X ⟨a, b, r, st, rfl, ha, hb, hr, hst, ⟨h1, h2, h3, h4⟩, hq⟩
  refine ⟨rfl, ?_⟩
  dsimp only [dRing]
  have la : (iL r).length < 1000 := by rw [iL_len]; omega
  have lens : ((iL r).length : Int) = r.length := by rw [iL_len]
  refine seq_split (fun st' => ∃ σ', st' = ⟨[some (.ptr a), some (.ptr b)], σ'⟩ ∧ Keeps (fun _ => False) σ σ') (fun W hW => ?_) ?_
  · dsimp only [SSeq, SAsg, SAsg2, Op2, Op1, Var, Con, lget, lset, TSet, TItem, TAttr, TTup, TGo, Tst, e_tru, SIf, SNext, SBrk, SCont, SDo, SRet, BNot, BAll, BAny, e_add, e_iadd, e_sub, e_lt, e_cmp, List.map, List.replicate, List.cons_append, List.nil_append, List.length_cons, List.length_nil, Cal, Evs, Mth, ETup, EList, EDict0, ENamed, EAnd, EOr, SFor, ESlice, EStar, EWrap, STry, SDel, SAugA, EJoin, EJs, SRaise, EArgV]
    refine len_list ha la ?_
    rw [lens, e_lt, e_tru, decide_eq_false (by omega)]
    dsimp only
    refine item_list ha la (iL_idx (k := 0) (by omega)) ?_
    dsimp only [oNeg]
    refine item_list ha la (x := .int (r.getD 0 0)) ?_ (ne_int ?_)
    · rw [ring_last h1 h2]
      unfold idx
      rw [if_neg (by decide), iL_len, if_pos (by omega)]
      unfold iL
      rw [List.getElem?_map, show (-1 + (r.length : Int)).toNat = r.length - 1 by omega, List.getElem?_eq_getElem (by omega), List.getD_eq_getElem?_getD, List.getElem?_eq_getElem (by omega)]
      rfl
    rw [e_tru, show (!(r.getD 0 0 == r.getD 0 0)) = false by rw [beq_self_eq_true]; rfl]
    dsimp only
    refine ⟨a, r, rfl, ⟨ha, hr⟩, fun s ys hs y1 y2 => ?_⟩
    refine ⟨s, ys, rfl, upd_self _ _ _, ?_⟩
    have K := (k0 σ).upd (o := .set ys) hs
    refine len_list (K _ _ ha id) la ?_
    rw [lens, e_sub]
    refine ne_int ?_
    rw [e_tru, ring_len h1 h2 h3 y1 y2, show (!((r.length - 1 : Nat) : Int) == (r.length : Int) - 1) = false by rw [show ((r.length - 1 : Nat) : Int) = (r.length : Int) - 1 by omega, beq_self_eq_true]; rfl]
    exact ⟨nofun, fun _ => hW _ ⟨_, rfl, K⟩⟩
  · rintro _ ⟨σ', rfl, K⟩
    dsimp only [SSeq, SAsg, SAsg2, Op2, Op1, Var, Con, lget, lset, TSet, TItem, TAttr, TTup, TGo, Tst, e_tru, SIf, SNext, SBrk, SCont, SDo, SRet, BNot, BAll, BAny, e_add, e_iadd, e_sub, e_lt, e_cmp, List.map, List.replicate, List.cons_append, List.nil_append, List.length_cons, List.length_nil, Cal, Evs, Mth, ETup, EList, EDict0, ENamed, EAnd, EOr, SFor, ESlice, EStar, EWrap, STry, SDel, SAugA, EJoin, EJs, SRaise, EArgV]
    dsimp only [EComp]
    dsimp only [SSeq, SAsg, SAsg2, Op2, Op1, Var, Con, lget, lset, TSet, TItem, TAttr, TTup, TGo, Tst, e_tru, SIf, SNext, SBrk, SCont, SDo, SRet, BNot, BAll, BAny, e_add, e_iadd, e_sub, e_lt, e_cmp, List.map, List.replicate, List.cons_append, List.nil_append, List.length_cons, List.length_nil, Cal, Evs, Mth, ETup, EList, EDict0, ENamed, EAnd, EOr, SFor, ESlice, EStar, EWrap, STry, SDel, SAugA, EJoin, EJs, SRaise, EArgV]
    refine len_list (K _ _ ha id) la ?_
    rw [lens]
    refine ⟨_, _, ⟨ring_items (by omega) hr, nofun, by rw [List.length_map, List.length_range']; omega⟩, ?_⟩
    refine comp_pure (fun _ : Nat => none) (fun m => ∃ u, m = [u, some (.ptr b), some (.ptr a)]) trivial _ [] _ ⟨_, rfl⟩ ?_ fun q hq' => ?_
    · rintro k hk _ ⟨u, rfl⟩ W₁ W₀ hV
      obtain ⟨k1, k2⟩ := List.mem_range'_1.mp hk
      have k2 : k < r.length := by omega
      dsimp only [SSeq, SAsg, SAsg2, Op2, Op1, Var, Con, lget, lset, TSet, TItem, TAttr, TTup, TGo, Tst, e_tru, SIf, SNext, SBrk, SCont, SDo, SRet, BNot, BAll, BAny, e_add, e_iadd, e_sub, e_lt, e_cmp, List.map, List.replicate, List.cons_append, List.nil_append, List.length_cons, List.length_nil, Cal, Evs, Mth, ETup, EList, EDict0, ENamed, EAnd, EOr, SFor, ESlice, EStar, EWrap, STry, SDel, SAugA, EJoin, EJs, SRaise, EArgV]
      refine item_list (K _ _ ha id) la (x := .int (r.getD (k - 1) 0)) (by rw [show (k : Int) - 1 = ((k - 1 : Nat) : Int) by omega]; exact iL_idx (by omega)) ?_
      refine item_list (K _ _ ha id) la (iL_idx k2) ⟨by decide, ?_⟩
      have hm := h4 (k - 1) (by omega)
      rw [show k - 1 + 1 = k by omega] at hm
      refine notin_prs (K _ _ hb id) hm ?_
      rw [e_tru]
      exact ⟨nofun, fun _ => (hV _ ⟨_, rfl⟩).2 rfl⟩
    · rw [List.nil_append, List.filterMap_eq_nil_iff.mpr (fun _ _ => rfl)]
      have K2 := K.upd (o := .list (iL [])) (K.none hq')
      refine ⟨by decide, fun c hc => ?_⟩
      refine eq_ints (a := []) (b := []) ((upd_ne _ _ (ne_new (upd_self _ _ _) hc)).trans (upd_self _ _ _)) (upd_self _ _ _) ?_
      exact ⟨_, Sub.refl _, hq _ (K2.upd (K2.none (b := c) hc))⟩
end Mine
-- M18
namespace Mine
noncomputable abbrev fL (p num : Addr) (N : Nat) (v3 v4 v5 v6 v7 v8 v9 v10 v11 v12 v13 v14 v15 v16 v17 : Option AV) : List (Option AV) := [some (.con (.ref p)), some (.ptr num), some (.int N), v3, v4, v5, v6, v7, v8, v9, v10, v11, v12, v13, v14, v15, v16, v17]
theorem ct210 (B : Bs) (hB : Tp B) (hO : cycO B) (n : Nat) : SemC B ⟨n + 7, none⟩ (.ref 210) (spLaw B) := by
  refine spec_pl (R' := ⟨n + 6, none⟩) (ps := [(Str.ofString "script", .loc)]) (ls := [(Str.ofString "numbers", .loc), (Str.ofString "size", .loc), (Str.ofString "steps", .own), (Str.ofString "a", .loc), (Str.ofString "b", .loc), (Str.ofString "ahead", .loc), (Str.ofString "needs", .loc), (Str.ofString "brings", .loc), (Str.ofString "most", .loc), (Str.ofString "sorter", .loc), (Str.ofString "work", .loc), (Str.ofString "error", .loc), (Str.ofString "order", .loc), (Str.ofString "lacks", .own), (Str.ofString "hand", .loc), (Str.ofString "purse", .own), (Str.ofString "many", .loc)]) (fk_of hB (by kernel_rfl)) (by kernel_rfl) rfl rfl
    (dLaw B ⟨n + 6, none⟩ hB (okF (by kernel_rfl)) rfl hO (meth_of hB (by kernel_rfl)) (ct122 B hB (n + 2)) (meth_of hB (by kernel_rfl)) (ct127 B hB hO (n + 5) (ct162 B hB (n + 4))) (meth_of hB (by kernel_rfl)) (ct141 B hB (n + 5)) (ct181 B hB (n + 5)) (ct188 B hB (n + 5)) (ct193 B hB (n + 5)) (fun ea y => ct198 B hB (n + 5) ea y) (ct205 B hB (n + 2)) (ct172 B hB n)).2 (by decide) (by kernel_rfl) (bind1 fun a => by kernel_rfl) ?_
  rintro _ σ Q X ⟨p, vs, ns, rfl, hp, hi, hl, hq⟩
  refine ⟨rfl, ?_⟩
  dsimp only [dLaw]
  -- numbers
  refine seq_split (fun st => Ex2 fun num nums => An2 (st = ⟨[some (.con (.ref p)), some (.ptr num), none, none, none, none, none, none, none, none, none, none, none, none, none, none, none, none], upd σ num (.list (iL nums))⟩) (nums.length ≤ 24)) (fun W hW => ?_) ?_
  · dsimp only [SAsg, SAsg2, Op2, Op1, Var, Con, lget, lset, TSet, TItem, TAttr, TTup, TGo, Tst, e_tru, SIf, SNext, SBrk, SCont, SDo, SRet, BNot, BAll, BAny, e_add, e_iadd, e_sub, e_lt, e_cmp, List.map, List.replicate, List.cons_append, List.nil_append, List.length_cons, List.length_nil, Cal, Evs, Mth, ETup, EList, EDict0, ENamed, EAnd, EOr, SFor, ESlice, EStar, EWrap, STry, SDel, SAugA, EJoin, EJs, SRaise, EArgV]
    refine ⟨p, vs, ns, none, some 24, none, rfl, ⟨hp, hi, by omega, rfl, rfl, rfl, nofun⟩, fun num hnum => ?_⟩
    rw [pickL_pre (by decide)]
    exact hW _ ⟨num, ns.take 24, rfl, List.length_take_le _ _⟩
  rintro _ ⟨num, nums, rfl, hln⟩
  clear hi hp hl
  -- size
  refine seq_split (fun st => ∃ N : Nat, st = ⟨fL p num N none none none none none none none none none none none none none none none, upd σ num (.list (iL nums))⟩ ∧ 5 ≤ N ∧ N ≤ 7) (fun W hW => ?_) ?_
  · dsimp only [SAsg, SAsg2, Op2, Op1, Var, Con, lget, lset, TSet, TItem, TAttr, TTup, TGo, Tst, e_tru, SIf, SNext, SBrk, SCont, SDo, SRet, BNot, BAll, BAny, e_add, e_iadd, e_sub, e_lt, e_cmp, List.map, List.replicate, List.cons_append, List.nil_append, List.length_cons, List.length_nil, Cal, Evs, Mth, ETup, EList, EDict0, ENamed, EAnd, EOr, SFor, ESlice, EStar, EWrap, STry, SDel, SAugA, EJoin, EJs, SRaise, EArgV]
    refine ⟨nums, upd_self _ _ _, by decide, ?_⟩
    obtain ⟨h1, h2⟩ := fmod_ok nums.sum (y := 3) (by decide)
    obtain ⟨m, hm⟩ := Int.eq_ofNat_of_zero_le (show 0 ≤ 5 + nums.sum.fmod 3 by omega)
    rw [e_add, hm]
    exact hW _ ⟨m, rfl, by omega, by omega⟩
  rintro _ ⟨N, rfl, h5, h7⟩
  have hN : N < 1000 := by omega
  -- steps
  refine seq_split (fun st => Ex3 fun sp ss σ' => An5 (st = ⟨fL p num N (some (.ptr sp)) none none none none none none none none none none none none none none, σ'⟩) (σ' num = some (.list (iL nums))) (σ' sp = some (.list (prs ss))) (ss.length ≤ 12) (∀ e ∈ ss, e.1 ∈ nI N ∧ e.2 ∈ nI N)) (fun W hW => ?_) ?_
  · dsimp only [SAsg, SAsg2, Op2, Op1, Var, Con, lget, lset, TSet, TItem, TAttr, TTup, TGo, Tst, e_tru, SIf, SNext, SBrk, SCont, SDo, SRet, BNot, BAll, BAny, e_add, e_iadd, e_sub, e_lt, e_cmp, List.map, List.replicate, List.cons_append, List.nil_append, List.length_cons, List.length_nil, Cal, Evs, Mth, ETup, EList, EDict0, ENamed, EAnd, EOr, SFor, ESlice, EStar, EWrap, STry, SDel, SAugA, EJoin, EJs, SRaise, EArgV]
    refine ⟨_, none, some 8, none, ⟨upd_self _ _ _, by rw [iL_len]; omega, rfl, rfl, rfl, nofun⟩, fun b hb => ?_⟩
    rw [pickL_pre (by decide)]
    have hn : upd σ num (.list (iL nums)) num = some (.list (iL nums)) := upd_self _ _ _
    refine ⟨(N : Int), b, nums.take 8, rfl, by omega, by omega, upd_self _ _ _, by rw [List.length_take]; omega, fun q σ' hq1 hq2 K => ?_⟩
    refine hW _ ⟨q, _, σ', rfl, K _ _ ((upd_ne _ _ (ne_new hn hb)).trans hn) id, hq2, ?_, steps_in h5⟩
    have := steps_len (N := (N : Int)) (ns := nums.take 8)
    have := List.length_take_le 8 nums
    omega
  clear σ
  rintro _ ⟨sp, ss, σ, rfl, hn, hs, hsl, hss⟩
  -- ahead
  refine seq_split (fun st => Ex2 fun ah σ' => An3 (st = ⟨fL p num N (some (.ptr sp)) none none (some (.ptr ah)) none none none none none none none none none none none, σ'⟩) (Keeps (fun _ => False) σ σ') (Rows σ' ah N (preOf ss))) (fun W hW => ?_) ?_
  · dsimp only [SAsg, SAsg2, Op2, Op1, Var, Con, lget, lset, TSet, TItem, TAttr, TTup, TGo, Tst, e_tru, SIf, SNext, SBrk, SCont, SDo, SRet, BNot, BAll, BAny, e_add, e_iadd, e_sub, e_lt, e_cmp, List.map, List.replicate, List.cons_append, List.nil_append, List.length_cons, List.length_nil, Cal, Evs, Mth, ETup, EList, EDict0, ENamed, EAnd, EOr, SFor, ESlice, EStar, EWrap, STry, SDel, SAugA, EJoin, EJs, SRaise, EArgV]
    dsimp only [EComp]
    dsimp only [SAsg, SAsg2, Op2, Op1, Var, Con, lget, lset, TSet, TItem, TAttr, TTup, TGo, Tst, e_tru, SIf, SNext, SBrk, SCont, SDo, SRet, BNot, BAll, BAny, e_add, e_iadd, e_sub, e_lt, e_cmp, List.map, List.replicate, List.cons_append, List.nil_append, List.length_cons, List.length_nil, Cal, Evs, Mth, ETup, EList, EDict0, ENamed, EAnd, EOr, SFor, ESlice, EStar, EWrap, STry, SDel, SAugA, EJoin, EJs, SRaise, EArgV]
    refine ⟨_, _, ⟨rng_items hN, nofun, by rw [List.length_map, List.length_range]; exact hN⟩, comp_rule (fun rest acc m σ' => Ex3 fun (k : Nat) (al : Nat → Addr) (u : Option AV) => An6 (rest = ((List.range' k (N - k)).map fun i : Nat => AV.int i)) (k ≤ N) (acc = (List.range k).map (fun i => AV.ptr (al i))) (m = [u, some (.ptr sp)]) ((∀ i, i < k → σ' (al i) = some (.list (iL (preOf ss i))))) (Keeps (fun _ => False) σ σ')) ?_ ?_ _ _ _ _ ⟨0, fun _ => 0, none, by rw [List.range_eq_range', Nat.sub_zero], Nat.zero_le _, rfl, rfl, nofun, k0 σ⟩⟩
    · rintro x xs _ _ σ' ⟨k, al, u, e, hk, rfl, rfl, h1, K⟩ W₁ W₀ g1 g0
      have hk : k < N := by
        refine Nat.lt_of_le_of_ne hk fun z => ?_
        rw [z, Nat.sub_self] at e; cases e
      rw [show N - k = (N - (k + 1)) + 1 by omega, List.range'_succ] at e
      obtain ⟨rfl, rfl⟩ := List.cons.inj e
      clear e g0
      refine ⟨trivial, ?_⟩
      dsimp only [SSeq, SAsg, SAsg2, Op2, Op1, Var, Con, lget, lset, TSet, TItem, TAttr, TTup, TGo, Tst, e_tru, SIf, SNext, SBrk, SCont, SDo, SRet, BNot, BAll, BAny, e_add, e_iadd, e_sub, e_lt, e_cmp, List.map, List.replicate, List.cons_append, List.nil_append, List.length_cons, List.length_nil, Cal, Evs, Mth, ETup, EList, EDict0, ENamed, EAnd, EOr, SFor, ESlice, EStar, EWrap, STry, SDel, SAugA, EJoin, EJs, SRaise, EArgV]
      refine ⟨fun _ => ?_, nofun⟩
      refine ⟨_, _, ⟨.list sp _ (K _ _ hs id), nofun, by rw [prs_length]; omega⟩, comp_pure (h := prv) (fun e : PP => if (e.2 == (k : Int)) = true then some (AV.int e.1) else none) (fun m => ∃ u v, m = [u, v, some (.int k)]) (K _ _ hs id) ss [] _ ⟨_, _, rfl⟩ ?_ fun a ha => ?_⟩
      · rintro e he _ ⟨u, v, rfl⟩ V₁ V₀ hV
        have hV := hV _ ⟨some (.int e.1), some (.int e.2), rfl⟩
        refine ⟨rfl, ?_⟩
        dsimp only [SSeq, SAsg, SAsg2, Op2, Op1, Var, Con, lget, lset, TSet, TItem, TAttr, TTup, TGo, Tst, e_tru, SIf, SNext, SBrk, SCont, SDo, SRet, BNot, BAll, BAny, e_add, e_iadd, e_sub, e_lt, e_cmp, List.map, List.replicate, List.cons_append, List.nil_append, List.length_cons, List.length_nil, Cal, Evs, Mth, ETup, EList, EDict0, ENamed, EAnd, EOr, SFor, ESlice, EStar, EWrap, STry, SDel, SAugA, EJoin, EJs, SRaise, EArgV]
        refine eq_int ?_
        rw [e_tru]
        exact ⟨fun z => hV.1 _ (if_pos z), fun z => hV.2 (if_neg (by rw [z]; nofun))⟩
      · rw [List.nil_append, fm_pre]
        refine g1 _ _ _ ⟨k + 1, fun i => if i = k then a else al i, _, rfl, hk, ?_, rfl, fun i hi => ?_, K.upd (K.none ha)⟩
        · rw [List.range_succ, List.map_append, List.map_singleton]
          dsimp only
          rw [if_pos rfl]
          congr 1
          exact List.map_congr_left fun i hi => by rw [if_neg (Nat.ne_of_lt (List.mem_range.mp hi))]
        · by_cases z : i = k
          · subst z
            dsimp only
            rw [if_pos rfl]; exact upd_self _ _ _
          · dsimp only
            rw [if_neg z]
            have h5 := h1 i (by omega)
            exact (upd_ne _ _ (ne_new h5 ha)).trans h5
    · rintro acc m σ' ⟨k, al, u, e, hk, rfl, rfl, h1, K⟩
      obtain rfl : k = N := by
        refine Nat.le_antisymm hk (Nat.not_lt.mp fun z => ?_)
        rw [show N - k = (N - (k + 1)) + 1 by omega, List.range'_succ] at e; cases e
      refine ⟨trivial, fun a ha => hW _ ⟨a, _, rfl, K.upd (K.none ha), al, upd_self _ _ _, fun i hi => ⟨(upd_ne _ _ (ne_new (h1 i hi) ha)).trans (h1 i hi), ?_⟩⟩⟩
      have := pre_len (st := ss) (i : Int)
      omega
  rintro _ ⟨ah, σ', rfl, K, hr⟩
  replace hn := K _ _ hn id
  replace hs := K _ _ hs id
  clear K σ
  rename Sto => σ
  -- needs
  refine seq_split (fun st => Ex3 fun ne nd σ' => An4 (st = ⟨fL p num N (some (.ptr sp)) none none (some (.ptr ah)) (some (.ptr ne)) none none none none none none none none none none, σ'⟩) (Keeps (fun _ => False) σ σ') (σ' ne = some (.list (iL nd))) (nd.length = N)) (fun W hW => ?_) ?_
  · dsimp only [SAsg, SAsg2, Op2, Op1, Var, Con, lget, lset, TSet, TItem, TAttr, TTup, TGo, Tst, e_tru, SIf, SNext, SBrk, SCont, SDo, SRet, BNot, BAll, BAny, e_add, e_iadd, e_sub, e_lt, e_cmp, List.map, List.replicate, List.cons_append, List.nil_append, List.length_cons, List.length_nil, Cal, Evs, Mth, ETup, EList, EDict0, ENamed, EAnd, EOr, SFor, ESlice, EStar, EWrap, STry, SDel, SAugA, EJoin, EJs, SRaise, EArgV]
    dsimp only [oNeg]
    refine ⟨by decide, fun a ha => ⟨_, none, some (N : Int), none, ⟨upd_self _ _ _, by decide, rfl, rfl, rfl, nofun⟩, fun b hb => ?_⟩⟩
    change upd σ a (.list (iL [3, -2, 6, 1, 9, 4, 7])) b = none at hb
    rw [show [AV.int 3, AV.int (-2), AV.int 6, AV.int 1, AV.int 9, AV.int 4, AV.int 7] = iL [3, -2, 6, 1, 9, 4, 7] from rfl, pickL_pre (Int.natCast_nonneg N), Int.toNat_natCast]
    have ll : ([3, -2, 6, 1, 9, 4, 7].take N : List Int).length = N := by rw [List.length_take]; exact Nat.min_eq_left h7
    have K1 := (k0 σ).upd (o := .list (iL [3, -2, 6, 1, 9, 4, 7])) ha
    have K2 := K1.upd (o := .list (iL ([3, -2, 6, 1, 9, 4, 7].take N))) (K1.none hb)
    refine ⟨b, num, _, nums, rfl, upd_self _ _ _, K2 _ _ hn id, fun z => ?_, by omega, by omega, fun q σ' hq1 hq2 K => ?_⟩
    · rw [z] at ll; exact absurd ll (by show 0 ≠ N; omega)
    · exact hW _ ⟨q, _, σ', rfl, K2.trans K, hq2, (dealt_len _ _).trans ll⟩
  rintro _ ⟨ne, nd, σ', rfl, K, he, hel⟩
  replace hn := K _ _ hn id
  replace hs := K _ _ hs id
  replace hr := hr.keeps K
  clear K σ
  rename Sto => σ
  -- brings
  refine seq_split (fun st => Ex3 fun bp br σ' => An5 (st = ⟨fL p num N (some (.ptr sp)) none none (some (.ptr ah)) (some (.ptr ne)) (some (.ptr bp)) none none none none none none none none none, σ'⟩) (Keeps (fun _ => False) σ σ') (σ' bp = some (.list (iL br))) (br.length = N) (∀ k, 0 ≤ br.getD k 0)) (fun W hW => ?_) ?_
  · dsimp only [SAsg, SAsg2, Op2, Op1, Var, Con, lget, lset, TSet, TItem, TAttr, TTup, TGo, Tst, e_tru, SIf, SNext, SBrk, SCont, SDo, SRet, BNot, BAll, BAny, e_add, e_iadd, e_sub, e_lt, e_cmp, List.map, List.replicate, List.cons_append, List.nil_append, List.length_cons, List.length_nil, Cal, Evs, Mth, ETup, EList, EDict0, ENamed, EAnd, EOr, SFor, ESlice, EStar, EWrap, STry, SDel, SAugA, EJoin, EJs, SRaise, EArgV]
    dsimp only [EComp]
    dsimp only [SAsg, SAsg2, Op2, Op1, Var, Con, lget, lset, TSet, TItem, TAttr, TTup, TGo, Tst, e_tru, SIf, SNext, SBrk, SCont, SDo, SRet, BNot, BAll, BAny, e_add, e_iadd, e_sub, e_lt, e_cmp, List.map, List.replicate, List.cons_append, List.nil_append, List.length_cons, List.length_nil, Cal, Evs, Mth, ETup, EList, EDict0, ENamed, EAnd, EOr, SFor, ESlice, EStar, EWrap, STry, SDel, SAugA, EJoin, EJs, SRaise, EArgV]
    refine ⟨by decide, fun a ha => ⟨_, none, some (N : Int), none, ⟨upd_self _ _ _, by decide, rfl, rfl, rfl, nofun⟩, fun b hb => ?_⟩⟩
    change upd σ a (.list (iL [2, 1, 3, 0, 2, 5, 1])) b = none at hb
    rw [show [AV.int 2, AV.int 1, AV.int 3, AV.int 0, AV.int 2, AV.int 5, AV.int 1] = iL [2, 1, 3, 0, 2, 5, 1] from rfl, pickL_pre (Int.natCast_nonneg N), Int.toNat_natCast]
    have ll : ([2, 1, 3, 0, 2, 5, 1].take N : List Int).length = N := by rw [List.length_take]; exact Nat.min_eq_left h7
    have K1 := (k0 σ).upd (o := .list (iL [2, 1, 3, 0, 2, 5, 1])) ha
    have K2 := K1.upd (o := .list (iL ([2, 1, 3, 0, 2, 5, 1].take N))) (K1.none hb)
    dsimp only [EComp]
    dsimp only [SAsg, SAsg2, Op2, Op1, Var, Con, lget, lset, TSet, TItem, TAttr, TTup, TGo, Tst, e_tru, SIf, SNext, SBrk, SCont, SDo, SRet, BNot, BAll, BAny, e_add, e_iadd, e_sub, e_lt, e_cmp, List.map, List.replicate, List.cons_append, List.nil_append, List.length_cons, List.length_nil, Cal, Evs, Mth, ETup, EList, EDict0, ENamed, EAnd, EOr, SFor, ESlice, EStar, EWrap, STry, SDel, SAugA, EJoin, EJs, SRaise, EArgV]
    refine ⟨_, _, ⟨.list num _ (K2 _ _ hn id), nofun, by rw [iL_len]; omega⟩, comp_pure (fun x : Int => some (.int (x.fdiv 9))) (fun m => ∃ u, m = [u]) (K2 _ _ hn id) nums [] _ ⟨_, rfl⟩ ?_ fun c hc => ?_⟩
    · rintro x _ _ ⟨u, rfl⟩ W₁ W₀ hV
      exact ⟨fun _ => ⟨⟨by decide, PyProof.noPylong_small (by decide)⟩, (hV _ ⟨_, rfl⟩).1 _ rfl⟩, nofun⟩
    have K3 := K2.upd (o := .list ([] ++ nums.filterMap fun x => some (.int (x.fdiv 9)))) (K2.none hc)
    have hbb := (upd_ne _ (.list ([] ++ nums.filterMap fun x => some (.int (x.fdiv 9)))) (ne_new (upd_self _ _ _) hc)).trans (upd_self (upd σ a (.list (iL [2, 1, 3, 0, 2, 5, 1]))) b (.list (iL ([2, 1, 3, 0, 2, 5, 1].take N))))
    refine ⟨b, c, _, nums.map fun x => x.fdiv 9, rfl, hbb, (upd_self _ _ _).trans (by rw [List.nil_append, fm_int fun x => x.fdiv 9]), fun z => ?_, by omega, by rw [List.length_map]; omega, fun q σ' hq1 hq2 K => ?_⟩
    · rw [z] at ll; exact absurd ll (by show 0 ≠ N; omega)
    have ld : (dealt ([2, 1, 3, 0, 2, 5, 1].take N) (nums.map fun x => x.fdiv 9)).length = N := (dealt_len _ _).trans ll
    generalize dealt ([2, 1, 3, 0, 2, 5, 1].take N) (nums.map fun x => x.fdiv 9) = ds at hq2 ld
    refine ⟨_, _, ⟨.list q _ hq2, nofun, by rw [iL_len]; omega⟩, comp_pure (fun x : Int => some (.int (if x < 0 then -x else x))) (fun m => ∃ u, m = [u]) hq2 ds [] _ ⟨_, rfl⟩ ?_ fun d hd => ?_⟩
    · rintro x _ _ ⟨u, rfl⟩ W₁ W₀ hV
      exact ⟨fun _ => (hV _ ⟨_, rfl⟩).1 _ rfl, nofun⟩
    · refine hW _ ⟨d, ds.map fun x => if x < 0 then -x else x, _, rfl, (K3.trans K).upd ((K3.trans K).none hd), (upd_self _ _ _).trans (by rw [List.nil_append, fm_int fun x => if x < 0 then -x else x]), (List.length_map _).trans ld, abs_nn ds⟩
  rintro _ ⟨bp, br, σ', rfl, K, hb, hbl, hb0⟩
  replace hn := K _ _ hn id
  replace hs := K _ _ hs id
  replace hr := hr.keeps K
  replace he := K _ _ he id
  clear K σ
  rename Sto => σ
  -- most
  refine seq_split (fun st => Ex3 fun mo ms σ' => An4 (st = ⟨fL p num N (some (.ptr sp)) none none (some (.ptr ah)) (some (.ptr ne)) (some (.ptr bp)) (some (.ptr mo)) none none none none none none none none, σ'⟩) (Keeps (fun _ => False) σ σ') (σ' mo = some (.list (iL ms))) (AbleL (fun k => nd.getD k.toNat 0) (fun k => br.getD k.toNat 0) (preOf ss) N (nd.map fun x => if x < 0 then -x else x).sum ms)) (fun W hW => ?_) ?_
  · dsimp only [SAsg, SAsg2, Op2, Op1, Var, Con, lget, lset, TSet, TItem, TAttr, TTup, TGo, Tst, e_tru, SIf, SNext, SBrk, SCont, SDo, SRet, BNot, BAll, BAny, e_add, e_iadd, e_sub, e_lt, e_cmp, List.map, List.replicate, List.cons_append, List.nil_append, List.length_cons, List.length_nil, Cal, Evs, Mth, ETup, EList, EDict0, ENamed, EAnd, EOr, SFor, ESlice, EStar, EWrap, STry, SDel, SAugA, EJoin, EJs, SRaise, EArgV]
    dsimp only [EComp]
    dsimp only [SAsg, SAsg2, Op2, Op1, Var, Con, lget, lset, TSet, TItem, TAttr, TTup, TGo, Tst, e_tru, SIf, SNext, SBrk, SCont, SDo, SRet, BNot, BAll, BAny, e_add, e_iadd, e_sub, e_lt, e_cmp, List.map, List.replicate, List.cons_append, List.nil_append, List.length_cons, List.length_nil, Cal, Evs, Mth, ETup, EList, EDict0, ENamed, EAnd, EOr, SFor, ESlice, EStar, EWrap, STry, SDel, SAugA, EJoin, EJs, SRaise, EArgV]
    refine ⟨_, _, ⟨.list ne _ he, nofun, by rw [iL_len]; omega⟩, comp_pure (fun x : Int => some (.int (if x < 0 then -x else x))) (fun m => ∃ u, m = [u]) he nd [] _ ⟨_, rfl⟩ ?_ fun d hd => ?_⟩
    · rintro x _ _ ⟨u, rfl⟩ W₁ W₀ hV
      exact ⟨fun _ => (hV _ ⟨_, rfl⟩).1 _ rfl, nofun⟩
    rw [List.nil_append, fm_int fun x => if x < 0 then -x else x]
    have K1 := (k0 σ).upd (o := .list (iL (nd.map fun x => if x < 0 then -x else x))) hd
    refine ⟨_, upd_self _ _ _, ?_⟩
    refine ⟨_, ne, bp, ah, nd, br, N, preOf ss, rfl, K1 _ _ he id, K1 _ _ hb id, hr.keeps K1, hel, hbl, by omega, fun q σ' ms h1 h2 h3 K => hW _ ⟨q, ms, σ', rfl, K1.trans K, h2, h3⟩⟩
  rintro _ ⟨mo, ms, σ', rfl, K, hm, hab⟩
  replace hs := K _ _ hs id
  replace hr := hr.keeps K
  replace he := K _ _ he id
  replace hb := K _ _ hb id
  clear hn K σ
  rename Sto => σ
  -- the sorter
  refine seq_split (fun st => Ex2 fun (A : SA) (σ' : Sto) => An3 (st = ⟨fL p num N (some (.ptr sp)) none none (some (.ptr ah)) (some (.ptr ne)) (some (.ptr bp)) (some (.ptr mo)) (some (.ptr A.ps)) none none none none none none none, σ'⟩) (SAt σ' A emp) (∀ b o, σ b = some o → Held σ' A emp b o)) (fun W hW => ?_) ?_
  · dsimp only [SAsg, SAsg2, Op2, Op1, Var, Con, lget, lset, TSet, TItem, TAttr, TTup, TGo, Tst, e_tru, SIf, SNext, SBrk, SCont, SDo, SRet, BNot, BAll, BAny, e_add, e_iadd, e_sub, e_lt, e_cmp, List.map, List.replicate, List.cons_append, List.nil_append, List.length_cons, List.length_nil, Cal, Evs, Mth, ETup, EList, EDict0, ENamed, EAnd, EOr, SFor, ESlice, EStar, EWrap, STry, SDel, SAugA, EJoin, EJs, SRaise, EArgV]
    intro q dx hq' hdx hne
    refine ⟨q, dx, upd_self _ _ _, (upd_ne _ _ hne.symm).trans (upd_self _ _ _), rfl, fun A' σ' hA hk hps => ⟨rfl, ?_⟩⟩
    exact hW _ ⟨A', σ', by rw [hps], hA, fun b o h => hk b o ((upd_ne _ _ (ne_new h hq')).trans ((upd_ne _ _ (ne_new h hdx)).trans h)) (ne_new h hq') (ne_new h hdx)⟩
  rintro _ ⟨A, σ₁, rfl, hA, H⟩
  -- its nodes
  refine seq_split (fun st => Ex4 fun (A : SA) (S : SS) (σ' : Sto) (v11 : Option AV) => An4 (st = ⟨fL p num N (some (.ptr sp)) none none (some (.ptr ah)) (some (.ptr ne)) (some (.ptr bp)) (some (.ptr mo)) (some (.ptr A.ps)) v11 none none none none none none, σ'⟩) (SAt σ' A S) (TG S (nI N).reverse []) (∀ b o, σ b = some o → Held σ' A S b o)) (fun W hW => ?_) ?_
  · dsimp only [SAsg, SAsg2, Op2, Op1, Var, Con, lget, lset, TSet, TItem, TAttr, TTup, TGo, Tst, e_tru, SIf, SNext, SBrk, SCont, SDo, SRet, BNot, BAll, BAny, e_add, e_iadd, e_sub, e_lt, e_cmp, List.map, List.replicate, List.cons_append, List.nil_append, List.length_cons, List.length_nil, Cal, Evs, Mth, ETup, EList, EDict0, ENamed, EAnd, EOr, SFor, ESlice, EStar, EWrap, STry, SDel, SAugA, EJoin, EJs, SRaise, EArgV]
    dsimp only [oNeg]
    refine ⟨⟨by decide, PyProof.noPylong_small (by decide)⟩, ?_⟩
    refine ⟨_, _, down_items h5 h7, ?_⟩
    refine for_rule (fun rest st => Ex6 fun (dn td : List Int) (A : SA) (S : SS) (σ' : Sto) (v11 : Option AV) => An6 (rest = iL td) ((nI N).reverse = dn ++ td) (st = ⟨fL p num N (some (.ptr sp)) none none (some (.ptr ah)) (some (.ptr ne)) (some (.ptr bp)) (some (.ptr mo)) (some (.ptr A.ps)) v11 none none none none none none, σ'⟩) (SAt σ' A S) (TG S dn []) (∀ b o, σ b = some o → Held σ' A S b o)) _ _ ⟨[], _, A, emp, σ₁, none, rfl, rfl, rfl, hA, TG.emp, H⟩ ?_ ?_
    · rintro W x xs _ ⟨dn, td, A, S, σ', v11, e, ed, rfl, hA, tg, H⟩ hW
      obtain ⟨c, td, rfl⟩ : ∃ p t, td = p :: t := by cases td with | nil => cases e | cons p t => exact ⟨p, t, rfl⟩
      cases e
      refine ⟨trivial, ?_⟩
      have hdl : dn.length ≤ N := by
        have := congrArg List.length ed
        rw [List.length_reverse, nI_len, List.length_append] at this
        omega
      have hcn : c ∉ dn := by
        have := (List.reverse_perm (nI N)).nodup_iff.mpr (nI_nd N)
        rw [ed] at this
        exact fun z => (List.nodup_append.mp this).2.2 _ z _ (.head _) rfl
      dsimp only [SSeq, SAsg, SAsg2, Op2, Op1, Var, Con, lget, lset, TSet, TItem, TAttr, TTup, TGo, Tst, e_tru, SIf, SNext, SBrk, SCont, SDo, SRet, BNot, BAll, BAny, e_add, e_iadd, e_sub, e_lt, e_cmp, List.map, List.replicate, List.cons_append, List.nil_append, List.length_cons, List.length_nil, Cal, Evs, Mth, ETup, EList, EDict0, ENamed, EAnd, EOr, SFor, ESlice, EStar, EWrap, STry, SDel, SAugA, EJoin, EJs, SRaise, EArgV]
      refine ⟨isInst_of hA rfl, A, S, c, [], rfl, hA, by rw [tg.ks]; omega, by decide, tg.rd, nofun, fun x hx => by rw [tg.su x (tg.ks ▸ hx)]; exact (by decide : 0 + 0 < 900), fun A' σ'' T => hW _ ⟨dn ++ [c], td, A', _, σ'', _, rfl, by rw [ed, List.append_assoc]; rfl, by rw [T.ps], T.at_, tg.node hcn, fun b o h => T.held (H b o h)⟩⟩
    · rintro _ ⟨dn, td, A, S, σ', v11, e, ed, rfl, hA, tg, H⟩
      obtain rfl : td = [] := by cases td with | nil => rfl | cons => cases e
      rw [List.append_nil] at ed
      exact ⟨trivial, hW _ ⟨A, S, σ', v11, rfl, hA, ed ▸ tg, H⟩⟩
  clear hA H A σ₁
  rintro _ ⟨A, S, σ₁, v11, rfl, hA, tg, H⟩
  have hL : ∀ k, k ∈ (nI N).reverse ↔ k ∈ nI N := fun k => List.mem_reverse
  -- its steps
  refine seq_split (fun st => Ex5 fun (A : SA) (S : SS) (σ' : Sto) (v4 v5 : Option AV) => An4 (st = ⟨fL p num N (some (.ptr sp)) v4 v5 (some (.ptr ah)) (some (.ptr ne)) (some (.ptr bp)) (some (.ptr mo)) (some (.ptr A.ps)) v11 none none none none none none, σ'⟩) (SAt σ' A S) (TG S (nI N).reverse ss) (∀ b o, σ b = some o → Held σ' A S b o)) (fun W hW => ?_) ?_
  · dsimp only [SAsg, SAsg2, Op2, Op1, Var, Con, lget, lset, TSet, TItem, TAttr, TTup, TGo, Tst, e_tru, SIf, SNext, SBrk, SCont, SDo, SRet, BNot, BAll, BAny, e_add, e_iadd, e_sub, e_lt, e_cmp, List.map, List.replicate, List.cons_append, List.nil_append, List.length_cons, List.length_nil, Cal, Evs, Mth, ETup, EList, EDict0, ENamed, EAnd, EOr, SFor, ESlice, EStar, EWrap, STry, SDel, SAugA, EJoin, EJs, SRaise, EArgV]
    refine ⟨_, _, .list sp _ (H _ _ hs).1, ?_⟩
    refine for_rule (fun rest st => Ex7 fun (dn td : List PP) (A : SA) (S : SS) (σ' : Sto) (v4 v5 : Option AV) => An6 (rest = prs td) (ss = dn ++ td) (st = ⟨fL p num N (some (.ptr sp)) v4 v5 (some (.ptr ah)) (some (.ptr ne)) (some (.ptr bp)) (some (.ptr mo)) (some (.ptr A.ps)) v11 none none none none none none, σ'⟩) (SAt σ' A S) (TG S (nI N).reverse dn) (∀ b o, σ b = some o → Held σ' A S b o)) _ _ ⟨[], ss, A, S, σ₁, none, none, rfl, rfl, rfl, hA, tg, H⟩ ?_ ?_
    · rintro W x xs _ ⟨dn, td, A, S, σ', v4, v5, e, ed, rfl, hA, tg, H⟩ hW
      obtain ⟨c, td, rfl⟩ : ∃ p t, td = p :: t := by cases td with | nil => cases e | cons p t => exact ⟨p, t, rfl⟩
      cases e
      refine ⟨(H _ _ hs).1, rfl, ?_⟩
      obtain ⟨c1, c2⟩ := hss c (by rw [ed]; simp)
      have hdl : dn.length ≤ 12 := by
        have := congrArg List.length ed
        rw [List.length_append] at this
        omega
      dsimp only [SSeq, SAsg, SAsg2, Op2, Op1, Var, Con, lget, lset, TSet, TItem, TAttr, TTup, TGo, Tst, e_tru, SIf, SNext, SBrk, SCont, SDo, SRet, BNot, BAll, BAny, e_add, e_iadd, e_sub, e_lt, e_cmp, List.map, List.replicate, List.cons_append, List.nil_append, List.length_cons, List.length_nil, Cal, Evs, Mth, ETup, EList, EDict0, ENamed, EAnd, EOr, SFor, ESlice, EStar, EWrap, STry, SDel, SAugA, EJoin, EJs, SRaise, EArgV]
      refine ⟨isInst_of hA rfl, A, S, c.2, [c.1], rfl, hA, by rw [tg.ks, List.length_reverse, nI_len]; omega, (by decide : 1 < 900), tg.rd, fun x hx => ?_, fun x hx => ?_, fun A' σ'' T => hW _ ⟨dn ++ [c], td, A', _, σ'', _, _, rfl, by rw [ed, List.append_assoc]; rfl, by rw [T.ps], T.at_, tg.step ((hL _).mpr c1) ((hL _).mpr c2), fun b o h => T.held (H b o h)⟩⟩
      · rw [List.mem_singleton.mp hx]
        show c.1 ∈ (if c.2 ∈ S.ks then S.ks else S.ks ++ [c.2])
        have : c.1 ∈ S.ks := by rw [tg.ks]; exact (hL _).mpr c1
        split
        · exact this
        · exact List.mem_append_left _ this
      · have := tg.len (tg.ks ▸ hx)
        show _ + 1 < 900
        omega
    · rintro _ ⟨dn, td, A, S, σ', v4, v5, e, ed, rfl, hA, tg, H⟩
      obtain rfl : td = [] := by cases td with | nil => rfl | cons => cases e
      rw [List.append_nil] at ed
      exact ⟨(H _ _ hs).1, hW _ ⟨A, S, σ', v4, v5, rfl, hA, ed ▸ tg, H⟩⟩
  clear hA H tg A S σ₁
  rintro _ ⟨A, S, σ₁, v4, v5, rfl, hA, tg, H⟩
  have hks : S.ks.length = N := by rw [tg.ks, List.length_reverse, nI_len]
  have hss' : ∀ e ∈ ss, e.1 ∈ (nI N).reverse := fun e he => (hL _).mpr (hss e he).1
  have hsuk : ∀ k ∈ S.ks, ∀ s ∈ S.su k, s ∈ S.ks := fun k hk s hs' => by rw [tg.ks] at hk ⊢; exact (hL _).mpr (hss _ ((tg.mem hk).mp hs')).2
  have hsul : ∀ k ∈ S.ks, (S.su k).length ≤ 12 := fun k hk => Nat.le_trans (tg.len (tg.ks ▸ hk)) hsl
  have gr : Gr S N (preOf ss) := tg.gr hL fun e he => (hss e he).1
  have hndp : ∀ k ∈ nI N, nd.getD k.toNat 0 ≤ (nd.map fun x => if x < 0 then -x else x).sum := fun k _ => le_abs_sum
  -- it is prepared
  refine seq_split (fun st => Ex3 fun (A : SA) (σ' : Sto) (v12 : Option AV) => An3 (st = ⟨fL p num N (some (.ptr sp)) v4 v5 (some (.ptr ah)) (some (.ptr ne)) (some (.ptr bp)) (some (.ptr mo)) (some (.ptr A.ps)) v11 v12 none none none none none, σ'⟩) (SAt σ' A (prepS S)) (∀ b o, σ b = some o → Held σ' A (prepS S) b o)) (fun W hW => ?_) ?_
  · dsimp only [SAsg, SAsg2, Op2, Op1, Var, Con, lget, lset, TSet, TItem, TAttr, TTup, TGo, Tst, e_tru, SIf, SNext, SBrk, SCont, SDo, SRet, BNot, BAll, BAny, e_add, e_iadd, e_sub, e_lt, e_cmp, List.map, List.replicate, List.cons_append, List.nil_append, List.length_cons, List.length_nil, Cal, Evs, Mth, ETup, EList, EDict0, ENamed, EAnd, EOr, SFor, ESlice, EStar, EWrap, STry, SDel, SAugA, EJoin, EJs, SRaise, EArgV]
    dsimp only [SSeq, SDo, Mth, Var, lget, Evs]
    refine ⟨isInst_of hA rfl, A, S, rfl, hA, tg.rd, by omega, hsuk, fun k hk => by have := hsul k hk; omega, fun A' σ' rk T => ?_, fun A' σ' q r hr hrl T hq hqo he' => ?_⟩
    · obtain ⟨rk, hrk⟩ := rk
      have hml := able_all gr (fun k => hb0 _) hndp hab hrk
      dsimp only [SIf, Tst, Op2, Cal, Evs, Var, lget]
      refine len_list (T.held (H _ _ hm)).1 (by rw [iL_len]; omega) ?_
      rw [iL_len, hml, e_lt, e_tru, decide_eq_false (Int.lt_irrefl _)]
      exact ⟨nofun, fun _ => hW _ ⟨A', σ', none, by rw [T.ps], T.at_, fun b o h => T.held (H b o h)⟩⟩
    · refine ⟨rfl, fun ea => ?_⟩
      dsimp only [EArgC, Var, lset, lget]
      refine ⟨rfl, rfl, _, ⟨(by decide : 2 < 1000), rfl⟩, ne_nodes ?_⟩
      rw [e_tru]
      dsimp only
      refine ⟨rfl, rfl, _, ⟨(by decide : 2 < 1000), rfl⟩, ?_⟩
      dsimp only
      have hs' := (T.held (H _ _ hs))
      refine ⟨q, sp, r, ss, rfl, he', hs'.1, hrl, by omega, ringOf_of hr fun a ha b hb => (tg.mem (tg.ks ▸ ha)).mp hb, fun σ'' K => ?_⟩
      dsimp only [e_tru, Bool.not_true]
      exact ⟨nofun, fun _ u => hW _ ⟨A', σ'', u, by rw [T.ps], T.at_.keeps K, fun b o h => (T.held (H b o h)).keeps K⟩⟩
  clear hA H A σ₁
  rintro _ ⟨A, σ₁, v12, rfl, hA, H⟩
  -- the run
  refine seq_split (fun st => Ex5 fun (A : SA) (S' : SS) (o : Addr) (ord : List Int) (σ' : Sto) => An9 (st = ⟨fL p num N (some (.ptr sp)) v4 v5 (some (.ptr ah)) (some (.ptr ne)) (some (.ptr bp)) (some (.ptr mo)) (some (.ptr A.ps)) v11 v12 (some (.ptr o)) none none none none, σ'⟩) (σ' o = some (.list (iL ord))) (RunO (fun k => nd.getD k.toNat 0) S ord) ((∀ k, ¬ Free S ord k)) (SAt σ' A S') (S'.rd = some []) (S'.po = ord.length) (S'.fi = ord.length) (Keeps (fun _ => False) σ σ')) (fun W hW => ?_) ?_
  · dsimp only [SAsg, SAsg2, Op2, Op1, Var, Con, lget, lset, TSet, TItem, TAttr, TTup, TGo, Tst, e_tru, SIf, SNext, SBrk, SCont, SDo, SRet, BNot, BAll, BAny, e_add, e_iadd, e_sub, e_lt, e_cmp, List.map, List.replicate, List.cons_append, List.nil_append, List.length_cons, List.length_nil, Cal, Evs, Mth, ETup, EList, EDict0, ENamed, EAnd, EOr, SFor, ESlice, EStar, EWrap, STry, SDel, SAugA, EJoin, EJs, SRaise, EArgV]
    refine ⟨A, S, ne, nd, rfl, hA, (H _ _ he).1, (H _ _ he).2, tg.rd, tg.po, tg.fi, by omega, by omega, fun k hk => ?_, hsuk, fun k hk => by have := hsul k hk; omega, fun k hk => ?_, fun A' S' σ' q ord h1 h2 h3 h4 h5 h6 h7 h8 h9 h10 => ?_⟩
    · have := nI_mem.mp ((hL k).mp (tg.ks ▸ hk))
      omega
    · exact tg.sum ((List.reverse_perm (nI N)).nodup_iff.mpr (nI_nd N)) hss' (tg.ks ▸ hk)
    · exact hW _ ⟨A', S', q, ord, σ', by rw [h5], h2, h3, h4, h6, h7, h8, h9, fun b o h _ => (h10 b o (H b o h)).1⟩
  clear hA H A σ₁
  rintro _ ⟨A, S', o, ord, σ₁, rfl, ho, hro, hend, hA, r1, r2, r3, K⟩
  have of := hro.facts
  have hol : ord.length ≤ N := hks ▸ sub_len of.1 (tg.ks ▸ (List.reverse_perm (nI N)).nodup_iff.mpr (nI_nd N)) of.2.1
  -- all are done
  refine seq_split (fun st => ∃ σ', st = ⟨fL p num N (some (.ptr sp)) v4 v5 (some (.ptr ah)) (some (.ptr ne)) (some (.ptr bp)) (some (.ptr mo)) (some (.ptr A.ps)) v11 v12 (some (.ptr o)) none none none none, σ'⟩ ∧ Keeps (fun _ => False) σ₁ σ') (fun W hW => ?_) ?_
  · dsimp only [SAsg, SAsg2, Op2, Op1, Var, Con, lget, lset, TSet, TItem, TAttr, TTup, TGo, Tst, e_tru, SIf, SNext, SBrk, SCont, SDo, SRet, BNot, BAll, BAny, e_add, e_iadd, e_sub, e_lt, e_cmp, List.map, List.replicate, List.cons_append, List.nil_append, List.length_cons, List.length_nil, Cal, Evs, Mth, ETup, EList, EDict0, ENamed, EAnd, EOr, SFor, ESlice, EStar, EWrap, STry, SDel, SAugA, EJoin, EJs, SRaise, EArgV]
    refine ⟨ord, ⟨ho, by omega⟩, fun ms' pm ps a ha => ?_⟩
    have K1 := (k0 σ₁).upd (o := .list (iL ms')) ha
    refine ne_ints (upd_self _ _ _) (K1 _ _ (K _ _ hm id) id) ?_
    rw [e_tru, decide_eq_true (run_most gr (fun k => hb0 _) hro hend hndp hab pm ps).symm]
    refine ⟨isInst_of (hA.keeps K1) rfl, A, S', [], rfl, hA.keeps K1, r1, by decide, ?_⟩
    rw [r2, r3, decide_eq_false (Int.lt_irrefl _), show (false || !([] : List Int).isEmpty) = false from rfl]
    dsimp only [e_tru]
    exact ⟨nofun, fun _ => hW _ ⟨_, rfl, K1⟩⟩
  rintro _ ⟨σ₂, rfl, K1⟩
  replace ho := K1 _ _ ho id
  replace K := K.trans K1
  replace he := K _ _ he id
  replace hb := K _ _ hb id
  replace hr := hr.keeps K
  clear K1 K hA r1 r2 r3 hs hm hsuk hsul hss' hndp hab S' σ₁
  clear σ
  rename Sto => σ
  have hom : ∀ x ∈ ord, x ∈ nI N := fun x hx => (gr.ks x).mp (of.2.1 x hx)
  generalize A.ps = aps
  clear A
  -- what is lacking
  refine seq_split (fun st => ∃ la, σ la = none ∧ st = ⟨fL p num N (some (.ptr sp)) v4 v5 (some (.ptr ah)) (some (.ptr ne)) (some (.ptr bp)) (some (.ptr mo)) (some (.ptr aps)) v11 v12 (some (.ptr o)) (some (.ptr la)) none none none, upd σ la (.list (iL []))⟩) (fun W hW => ?_) ?_
  · dsimp only [SAsg, SAsg2, Op2, Op1, Var, Con, lget, lset, TSet, TItem, TAttr, TTup, TGo, Tst, e_tru, SIf, SNext, SBrk, SCont, SDo, SRet, BNot, BAll, BAny, e_add, e_iadd, e_sub, e_lt, e_cmp, List.map, List.replicate, List.cons_append, List.nil_append, List.length_cons, List.length_nil, Cal, Evs, Mth, ETup, EList, EDict0, ENamed, EAnd, EOr, SFor, ESlice, EStar, EWrap, STry, SDel, SAugA, EJoin, EJs, SRaise, EArgV]
    exact ⟨by decide, fun a ha => hW _ ⟨a, ha, rfl⟩⟩
  rintro _ ⟨la, hla, rfl⟩
  refine seq_split (fun st => st = ⟨fL p num N (some (.ptr sp)) v4 v5 (some (.ptr ah)) (some (.ptr ne)) (some (.ptr bp)) (some (.ptr mo)) (some (.ptr aps)) v11 v12 (some (.ptr o)) (some (.ptr la)) (some (.int 0)) none none, upd σ la (.list (iL []))⟩) (fun W hW => hW _ rfl) ?_
  rintro _ rfl
  refine seq_split (fun st => Ex3 fun (v11 v15 : Option AV) (σ' : Sto) => An3 (st = ⟨fL p num N (some (.ptr sp)) v4 v5 (some (.ptr ah)) (some (.ptr ne)) (some (.ptr bp)) (some (.ptr mo)) (some (.ptr aps)) v11 v12 (some (.ptr o)) (some (.ptr la)) v15 none none, σ'⟩) (σ' la = some (.list (iL ((List.range ord.length).map (lackAt (fun k => nd.getD k.toNat 0) (fun k => br.getD k.toNat 0) ord))))) (Keeps (fun _ => False) σ σ')) (fun W hW => ?_) ?_
  · dsimp only [SAsg, SAsg2, Op2, Op1, Var, Con, lget, lset, TSet, TItem, TAttr, TTup, TGo, Tst, e_tru, SIf, SNext, SBrk, SCont, SDo, SRet, BNot, BAll, BAny, e_add, e_iadd, e_sub, e_lt, e_cmp, List.map, List.replicate, List.cons_append, List.nil_append, List.length_cons, List.length_nil, Cal, Evs, Mth, ETup, EList, EDict0, ENamed, EAnd, EOr, SFor, ESlice, EStar, EWrap, STry, SDel, SAugA, EJoin, EJs, SRaise, EArgV]
    refine ⟨_, _, .list o _ ((k0 σ).upd hla _ _ ho id), ?_⟩
    refine for_rule (fun rest st => Ex4 fun (dn td : List Int) (v11 : Option AV) (σ' : Sto) => An5 (rest = iL td) (ord = dn ++ td) (st = ⟨fL p num N (some (.ptr sp)) v4 v5 (some (.ptr ah)) (some (.ptr ne)) (some (.ptr bp)) (some (.ptr mo)) (some (.ptr aps)) v11 v12 (some (.ptr o)) (some (.ptr la)) (some (.int (dn.map fun k => br.getD k.toNat 0).sum)) none none, σ'⟩) (σ' la = some (.list (iL ((List.range dn.length).map (lackAt (fun k => nd.getD k.toNat 0) (fun k => br.getD k.toNat 0) ord))))) (Keeps (fun _ => False) σ σ')) _ _ ⟨[], ord, v11, _, rfl, rfl, rfl, upd_self _ _ _, (k0 σ).upd hla⟩ ?_ ?_
    · rintro W x xs _ ⟨dn, td, v11, σ', e, ed, rfl, h1, K⟩ hW
      obtain ⟨c, td, rfl⟩ : ∃ p t, td = p :: t := by cases td with | nil => cases e | cons p t => exact ⟨p, t, rfl⟩
      cases e
      refine ⟨K _ _ ho id, ?_⟩
      obtain ⟨c0, c1⟩ := nI_mem.mp (hom c (by rw [ed]; simp))
      obtain ⟨k, rfl⟩ := Int.eq_ofNat_of_zero_le c0
      have ldn : dn.length ≤ N := by
        have := congrArg List.length ed
        rw [List.length_append] at this; omega
      dsimp only [SSeq, SAsg, SAsg2, Op2, Op1, Var, Con, lget, lset, TSet, TItem, TAttr, TTup, TGo, Tst, e_tru, SIf, SNext, SBrk, SCont, SDo, SRet, BNot, BAll, BAny, e_add, e_iadd, e_sub, e_lt, e_cmp, List.map, List.replicate, List.cons_append, List.nil_append, List.length_cons, List.length_nil, Cal, Evs, Mth, ETup, EList, EDict0, ENamed, EAnd, EOr, SFor, ESlice, EStar, EWrap, STry, SDel, SAugA, EJoin, EJs, SRaise, EArgV]
      refine ⟨⟨la, _, rfl, h1⟩, item_list (K _ _ he id) (by rw [iL_len]; omega) (iL_idx (k := k) (by omega)) ?_⟩
      rw [e_sub]
      refine append_list h1 (by rw [iL_len, List.length_map, List.length_range]; omega) ?_
      have K' := K.upd (o := .list (iL ((List.range dn.length).map (lackAt (fun k => nd.getD k.toNat 0) (fun k => br.getD k.toNat 0) ord)) ++ [.int (nd.getD k 0 - (dn.map fun k => br.getD k.toNat 0).sum)])) hla
      dsimp only [SAugN, Op2, Var, lget, lset]
      refine item_list (K' _ _ hb id) (by rw [iL_len]; omega) (iL_idx (k := k) (by omega)) ?_
      rw [e_iadd]
      refine hW _ ⟨dn ++ [(k : Int)], td, some (.int k), _, rfl, by rw [ed, List.append_assoc]; rfl, ?_, (upd_self _ _ _).trans ?_, K'⟩
      · rw [List.map_append, List.sum_append, List.map_singleton, List.sum_singleton, Int.toNat_natCast]
      · rw [List.length_append, List.length_singleton, List.range_succ, List.map_append, ← iL_app, List.map_singleton]
        have e : lackAt (fun k => nd.getD k.toNat 0) (fun k => br.getD k.toNat 0) ord dn.length = nd.getD k 0 - (dn.map fun k => br.getD k.toNat 0).sum := by
          conv => lhs; rw [ed]
          rw [lack_at, Int.toNat_natCast]
        rw [e]; rfl
    · rintro _ ⟨dn, td, v11, σ', e, ed, rfl, h1, K⟩
      obtain rfl : td = [] := by cases td with | nil => rfl | cons => cases e
      rw [List.append_nil] at ed
      subst ed
      exact ⟨K _ _ ho id, hW _ ⟨_, _, _, rfl, h1, K⟩⟩
  clear v11
  rintro _ ⟨v11, v15, σ', rfl, hls, K⟩
  replace ho := K _ _ ho id
  replace he := K _ _ he id
  replace hb := K _ _ hb id
  replace hr := hr.keeps K
  obtain ⟨ls, hls', hll, hlk⟩ : ∃ ls : List Int, σ' la = some (.list (iL ls)) ∧ ls.length = ord.length ∧ ∀ i, i < ord.length → ls.getD i 0 = lackAt (fun k => nd.getD k.toNat 0) (fun k => br.getD k.toNat 0) ord i :=
    ⟨_, hls, by rw [List.length_map, List.length_range], fun i hi => by rw [List.getD_eq_getElem?_getD, List.getElem?_map, List.getElem?_range hi]; rfl⟩
  clear hls K hla hom
  clear σ
  rename Sto => σ
  -- every purse
  refine seq_split (fun st => True) (fun W hW => ?_) fun st _ => ⟨_, Sub.refl _, hq _⟩
  · dsimp only [SAsg, SAsg2, Op2, Op1, Var, Con, lget, lset, TSet, TItem, TAttr, TTup, TGo, Tst, e_tru, SIf, SNext, SBrk, SCont, SDo, SRet, BNot, BAll, BAny, e_add, e_iadd, e_sub, e_lt, e_cmp, List.map, List.replicate, List.cons_append, List.nil_append, List.length_cons, List.length_nil, Cal, Evs, Mth, ETup, EList, EDict0, ENamed, EAnd, EOr, SFor, ESlice, EStar, EWrap, STry, SDel, SAugA, EJoin, EJs, SRaise, EArgV]
    dsimp only [EComp]
    dsimp only [SAsg, SAsg2, Op2, Op1, Var, Con, lget, lset, TSet, TItem, TAttr, TTup, TGo, Tst, e_tru, SIf, SNext, SBrk, SCont, SDo, SRet, BNot, BAll, BAny, e_add, e_iadd, e_sub, e_lt, e_cmp, List.map, List.replicate, List.cons_append, List.nil_append, List.length_cons, List.length_nil, Cal, Evs, Mth, ETup, EList, EDict0, ENamed, EAnd, EOr, SFor, ESlice, EStar, EWrap, STry, SDel, SAugA, EJoin, EJs, SRaise, EArgV]
    refine ⟨_, _, ⟨.list la _ hls', nofun, by rw [iL_len]; omega⟩, comp_pure (fun x : Int => some (.int (x - 1))) (fun m => ∃ u, m = [u]) hls' ls [] _ ⟨_, rfl⟩ ?_ fun a ha => ?_⟩
    · rintro x _ _ ⟨u, rfl⟩ W₁ W₀ hV
      exact ⟨fun _ => (hV _ ⟨_, rfl⟩).1 _ rfl, nofun⟩
    rw [List.nil_append, fm_int fun x => x - 1]
    have K1 := (k0 σ).upd (o := .list (iL (ls.map fun x => x - 1))) ha
    refine ⟨iL ls, iL (ls.map fun x => x - 1), ⟨K1 _ _ hls' id, upd_self _ _ _, by rw [iL_len, iL_len, List.length_map]; omega⟩, fun b hb' => ?_⟩
    rw [iL_app]
    have K2 := K1.upd (o := .list (iL (ls ++ ls.map fun x => x - 1))) (K1.none hb')
    have hz : upd (upd σ a (.list (iL (ls.map fun x => x - 1)))) b (.list (iL (ls ++ ls.map fun x => x - 1))) b = _ := upd_self _ _ _
    generalize upd (upd σ a (.list (iL (ls.map fun x => x - 1)))) b (.list (iL (ls ++ ls.map fun x => x - 1))) = σ₁ at hz K2
    generalize ls ++ ls.map (fun x => x - 1) = zs at hz
    refine ⟨_, _, .list b _ hz, ?_⟩
    refine for_rule (fun rest st => Ex4 fun (td : List Int) (v16 v17 : Option AV) (σ' : Sto) => An3 (rest = iL td) (st = ⟨fL p num N (some (.ptr sp)) v4 v5 (some (.ptr ah)) (some (.ptr ne)) (some (.ptr bp)) (some (.ptr mo)) (some (.ptr aps)) v11 v12 (some (.ptr o)) (some (.ptr la)) v15 v16 v17, σ'⟩) (Keeps (fun _ => False) σ₁ σ')) _ _ ⟨zs, none, none, _, rfl, rfl, k0 _⟩ ?_ ?_
    · rintro W x xs _ ⟨td, v16, v17, σ', e, rfl, K⟩ hV
      obtain ⟨c, td, rfl⟩ : ∃ p t, td = p :: t := by cases td with | nil => cases e | cons p t => exact ⟨p, t, rfl⟩
      cases e
      refine ⟨K _ _ hz id, ?_⟩
      replace hz := K _ _ hz id
      replace hls' := K _ _ (K2 _ _ hls' id) id
      replace ho := K _ _ (K2 _ _ ho id) id
      replace he := K _ _ (K2 _ _ he id) id
      replace hb := K _ _ (K2 _ _ hb id) id
      replace hr := (hr.keeps K2).keeps K
      dsimp only [TSet, lset]
      refine seq_split (fun st => Ex2 fun (i : Nat) (σ'' : Sto) => An5 (st = ⟨fL p num N (some (.ptr sp)) v4 v5 (some (.ptr ah)) (some (.ptr ne)) (some (.ptr bp)) (some (.ptr mo)) (some (.ptr aps)) v11 v12 (some (.ptr o)) (some (.ptr la)) v15 (some (.int c)) (some (.int i)), σ''⟩) (Keeps (fun _ => False) σ' σ'') (i ≤ ls.length) ((∀ j, j < i → ls.getD j 0 ≤ c)) ((i < ls.length → c < ls.getD i 0))) (fun W hW => ?_) ?_
      · dsimp only [SAsg, SAsg2, Op2, Op1, Var, Con, lget, lset, TSet, TItem, TAttr, TTup, TGo, Tst, e_tru, SIf, SNext, SBrk, SCont, SDo, SRet, BNot, BAll, BAny, e_add, e_iadd, e_sub, e_lt, e_cmp, List.map, List.replicate, List.cons_append, List.nil_append, List.length_cons, List.length_nil, Cal, Evs, Mth, ETup, EList, EDict0, ENamed, EAnd, EOr, SFor, ESlice, EStar, EWrap, STry, SDel, SAugA, EJoin, EJs, SRaise, EArgV]
        dsimp only [EComp]
        dsimp only [SAsg, SAsg2, Op2, Op1, Var, Con, lget, lset, TSet, TItem, TAttr, TTup, TGo, Tst, e_tru, SIf, SNext, SBrk, SCont, SDo, SRet, BNot, BAll, BAny, e_add, e_iadd, e_sub, e_lt, e_cmp, List.map, List.replicate, List.cons_append, List.nil_append, List.length_cons, List.length_nil, Cal, Evs, Mth, ETup, EList, EDict0, ENamed, EAnd, EOr, SFor, ESlice, EStar, EWrap, STry, SDel, SAugA, EJoin, EJs, SRaise, EArgV]
        have lz : (iL ls).length < 1000 := by rw [iL_len]; omega
        refine len_list hls' lz ?_
        rw [iL_len]
        refine ⟨_, _, ⟨rng_items (by omega), nofun, by rw [List.length_map, List.length_range]; omega⟩, comp_pure (fun k : Nat => if c < ls.getD k 0 then some (.int k) else none) (fun m => ∃ u, m = [u, some (.ptr la), some (.int c)]) trivial _ [] _ ⟨_, rfl⟩ ?_ fun a ha => ?_⟩
        · rintro k hk _ ⟨u, rfl⟩ W₁ W₀ hV
          have hk := List.mem_range.mp hk
          have hV := hV _ ⟨some (.int k), rfl⟩
          dsimp only [SAsg, SAsg2, Op2, Op1, Var, Con, lget, lset, TSet, TItem, TAttr, TTup, TGo, Tst, e_tru, SIf, SNext, SBrk, SCont, SDo, SRet, BNot, BAll, BAny, e_add, e_iadd, e_sub, e_lt, e_cmp, List.map, List.replicate, List.cons_append, List.nil_append, List.length_cons, List.length_nil, Cal, Evs, Mth, ETup, EList, EDict0, ENamed, EAnd, EOr, SFor, ESlice, EStar, EWrap, STry, SDel, SAugA, EJoin, EJs, SRaise, EArgV]
          refine item_list hls' lz (iL_idx hk) ?_
          rw [e_cmp, e_tru]
          exact ⟨fun z => hV.1 _ (if_pos (of_decide_eq_true z)), fun z => hV.2 (if_neg (of_decide_eq_false z))⟩
        rw [List.nil_append, fm_many]
        have K3 := (k0 σ').upd (o := .list (iL ((nI ls.length).filter fun k => decide (c < ls.getD k.toNat 0)))) ha
        refine len_list (K3 _ _ hls' id) lz ?_
        rw [iL_len]
        refine ⟨by decide, fun b hb => ?_⟩
        have K4 := K3.upd (o := .list (iL [(ls.length : Int)])) (K3.none hb)
        have lf : ((nI ls.length).filter fun k => decide (c < ls.getD k.toNat 0)).length ≤ ls.length := Nat.le_trans (List.length_filter_le _ _) (Nat.le_of_eq (nI_len _))
        refine ⟨_, iL [(ls.length : Int)], ⟨(upd_ne _ _ (ne_new (upd_self _ _ _) hb)).trans (upd_self _ _ _), upd_self _ _ _, by rw [iL_len]; show _ + 1 < 1000; omega⟩, fun d hd => ?_⟩
        rw [iL_app]
        refine ⟨_, ⟨upd_self _ _ _, by simp⟩, fun m h1 h2 => ?_⟩
        obtain ⟨i, rfl, i1, i2, i3⟩ := many_ok h1 h2
        exact hW _ ⟨i, _, rfl, K4.upd (K4.none hd), i1, i2, i3⟩
      rintro _ ⟨i, σ₂, rfl, K3, i1, i2, i3⟩
      dsimp only [SAsg, SAsg2, Op2, Op1, Var, Con, lget, lset, TSet, TItem, TAttr, TTup, TGo, Tst, e_tru, SIf, SNext, SBrk, SCont, SDo, SRet, BNot, BAll, BAny, e_add, e_iadd, e_sub, e_lt, e_cmp, List.map, List.replicate, List.cons_append, List.nil_append, List.length_cons, List.length_nil, Cal, Evs, Mth, ETup, EList, EDict0, ENamed, EAnd, EOr, SFor, ESlice, EStar, EWrap, STry, SDel, SAugA, EJoin, EJs, SRaise, EArgV]
      refine ⟨c, ne, bp, ah, nd, br, N, preOf ss, rfl, K3 _ _ he id, K3 _ _ hb id, hr.keeps K3, hel, hbl, by omega, fun q σ₃ ms1 h1 h2 h3 K4 => ?_⟩
      have K5 := K3.trans K4
      have lt : (ord.take i).length ≤ N := by rw [List.length_take]; omega
      refine ⟨_, none, some (i : Int), none, ⟨K5 _ _ ho id, by rw [iL_len]; omega, rfl, rfl, rfl, nofun⟩, fun a ha => ?_⟩
      rw [pickL_pre (Int.natCast_nonneg i), Int.toNat_natCast]
      have K6 := (k0 σ₃).upd (o := .list (iL (ord.take i))) ha
      refine ⟨_, ⟨upd_self _ _ _, by omega⟩, fun ms2 pm ps d hd => ?_⟩
      have K7 := K6.upd (o := .list (iL ms2)) (K6.none hd)
      refine ne_ints (K7 _ _ h2 id) (upd_self _ _ _) ?_
      rw [e_tru, decide_eq_true (run_able gr (fun k => hb0 _) hro hend (by omega) (fun j hj => by rw [← hlk j (by omega)]; exact i2 j hj) (fun z => by rw [← hlk i z]; exact i3 (by omega)) h3 pm ps)]
      exact ⟨nofun, fun _ => hV _ ⟨td, _, _, _, rfl, rfl, (K.trans K5).trans K7⟩⟩
    · rintro _ ⟨td, v16, v17, σ', e, rfl, K⟩
      exact ⟨K _ _ hz id, hW _ trivial⟩
end Mine
-- M19
namespace Mine
theorem enter (B : Bs) (hB : Tp B) (hO : cycO B) {p : Addr} {vs : List Value} {ns : List Int} {s : Shared} (hl : s.heap = B.h₀) (hg : s.gens = #[]) (ho : s.os = B.os) (h1 : B.h₀.IsList p vs.toArray) (h2 : IntsAre vs ns) (h3 : ns.length < 100) :
    wpAny B.M callerA (call (.ref 210) [.ref p]) (fun v s' => v = .bool true ∧ (∀ b o, s.heap.get? b = some o → s'.heap.get? b = some o) ∧ s'.os = s.os ∧ s'.gens = #[]) (fun _ _ => False) s := by
  refine wpAny_mono ((ct210 B hB hO 0).on callerA (fun _ => none) s [.con (.ref p)] [.ref p] (fun v _ => v = .bool true) (fun _ _ => False) ⟨by decide, by decide, ⟨[], rfl, trivial, fun e h => absurd h List.not_mem_nil⟩, .inl ⟨rfl, rfl⟩⟩ ⟨fun b o e => by rw [hl]; exact e, hg, ho, fun a o h => absurd h.symm (Option.some_ne_none o), fun a h => absurd rfl h, by rw [hl]; exact Nat.le_refl _⟩ ⟨_, [], rfl, rfl, rfl⟩ ⟨p, vs, ns, rfl, h1, h2, h3, fun _ => rfl⟩) ?_ ?_
  · rintro v s' ⟨av, σ', rh, x, r, rfl⟩
    exact ⟨r, fun b o e => rh.old b o (by rw [← hl]; exact e), rh.os.trans ho.symm, rh.gens⟩
  · rintro e s' ⟨y, σ', rh, x, r, h⟩
    exact h
theorem cyc_at (w : World) {loose : List Str} {mean : ExcName → Option Value} {mg mb : Str → Option Value} {h : Heap} (X : (KK w.params).In h) (T : PyProof.Rows.Top qv loose mean mg mb h) : OwnClsQ (Str.ofString "CycleError") 90 [.type "ValueError", .type "Exception", .type "BaseException", .type "object"] "ValueError.__new__" mg h := by
  obtain ⟨C, O, _⟩ := T.ownAt (x := Str.ofString "CycleError") (newId := "ValueError.__new__") (bm := [.type "ValueError", .type "Exception", .type "BaseException", .type "object"]) (by kernel_rfl)
  have h1 : mg (Str.ofString "CycleError") = some (.ref 90) := mg_of X T.g (by kernel_rfl)
  have h2 := O.bound
  rw [h1] at h2
  cases h2
  exact O
theorem law_at (w : World) {mg : Str → Option Value} {h : Heap} (X : (KK w.params).In h) (g : h.Ns mainGlobals mg) {a : Addr} (e : mg dL.name = some (.ref a)) : a = 210 := by
  have h1 : mg (Str.ofString "law") = some (.ref 210) := mg_of X g (by kernel_rfl)
  have h2 : dL.name = Str.ofString "law" := by kernel_rfl
  rw [h2, h1] at e
  exact (Value.ref.inj (Option.some.inj e)).symm
theorem holds2 : PySem.Challenge.rw_mj0232_02.Holds := topHd (by
  intro w s₀ s₁ mg mb G Y a o pm cd doc dV kV ho hd hcd hD hmg hg args vals as hpre hlay hrd hwl hlo
  have KX := kIn_of Y
  clear ho hd hcd hD
  wrow_args hpre hlay hrd hwl hlo
  rename_i ns _ _ _ _ _ _ _ p vs _ hL _ _ _ hI _ hc _
  obtain rfl := law_at w KX G.T.g hmg
  refine wpAny_mono (enter ⟨rw0.prog, w, KK w.params, s₁.heap, mg, mb, s₁.os, KX, G.T.g, G.T.b, G.T.builtins, G.T.nolimit, G.T.nodigits, G.low⟩ rfl (cyc_at w KX G.T) rfl hg rfl hL hI (by omega)) ?_ fun _ _ h => h.elim
  rintro v s' ⟨rfl, h1, h2, h3⟩
  refine GoodW.toG ⟨.inl ⟨_, .bool true, [], rfl, ?_, .bool true, ?_, fun _ => ⟨List.nodup_nil, nofun⟩⟩, h1, h2, h3⟩
  · exact fun _ => rfl
  · wrow_post)
end Mine
theorem PySem.Challenge.cw_mj0232_02_holds : PySem.Challenge.rw_mj0232_02.Holds :=
  Mine.holds2
