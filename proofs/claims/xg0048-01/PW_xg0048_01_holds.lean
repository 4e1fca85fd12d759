import PyProof.Rows.All
import Wide.All
import OpenK.AllK
import Wide.FinOn
import PySem.Challenge.RW_xg0048_01
set_option Elab.async false
set_option maxRecDepth 100000
set_option compiler.extract_closed false
set_option linter.unusedVariables false
set_option maxHeartbeats 8000000
namespace Mine
open PySem PySem.W PyProof.Rows in
open_top hd for PySem.Challenge.rw_xg0048_01
open PySem PySem.Calls PyProof.Rows PySem.W


/-! many things said at once -/
inductive Ex1 {α0 : Type} (p : α0 → Prop) : Prop
  | mk (a0 : α0) (h : p a0) : Ex1 p
inductive Ex2 {α0 α1 : Type} (p : α0 → α1 → Prop) : Prop
  | mk (a0 : α0) (a1 : α1) (h : p a0 a1) : Ex2 p
inductive Ex3 {α0 α1 α2 : Type} (p : α0 → α1 → α2 → Prop) : Prop
  | mk (a0 : α0) (a1 : α1) (a2 : α2) (h : p a0 a1 a2) : Ex3 p
inductive Ex4 {α0 α1 α2 α3 : Type} (p : α0 → α1 → α2 → α3 → Prop) : Prop
  | mk (a0 : α0) (a1 : α1) (a2 : α2) (a3 : α3) (h : p a0 a1 a2 a3) : Ex4 p
inductive Ex5 {α0 α1 α2 α3 α4 : Type} (p : α0 → α1 → α2 → α3 → α4 → Prop) : Prop
  | mk (a0 : α0) (a1 : α1) (a2 : α2) (a3 : α3) (a4 : α4) (h : p a0 a1 a2 a3 a4) : Ex5 p
inductive Ex6 {α0 α1 α2 α3 α4 α5 : Type} (p : α0 → α1 → α2 → α3 → α4 → α5 → Prop) : Prop
  | mk (a0 : α0) (a1 : α1) (a2 : α2) (a3 : α3) (a4 : α4) (a5 : α5) (h : p a0 a1 a2 a3 a4 a5) : Ex6 p
inductive A2 (p0 p1 : Prop) : Prop
  | mk (h0 : p0) (h1 : p1) : A2 p0 p1
inductive A3 (p0 p1 p2 : Prop) : Prop
  | mk (h0 : p0) (h1 : p1) (h2 : p2) : A3 p0 p1 p2
inductive A4 (p0 p1 p2 p3 : Prop) : Prop
  | mk (h0 : p0) (h1 : p1) (h2 : p2) (h3 : p3) : A4 p0 p1 p2 p3
inductive A5 (p0 p1 p2 p3 p4 : Prop) : Prop
  | mk (h0 : p0) (h1 : p1) (h2 : p2) (h3 : p3) (h4 : p4) : A5 p0 p1 p2 p3 p4
inductive A6 (p0 p1 p2 p3 p4 p5 : Prop) : Prop
  | mk (h0 : p0) (h1 : p1) (h2 : p2) (h3 : p3) (h4 : p4) (h5 : p5) : A6 p0 p1 p2 p3 p4 p5
inductive A7 (p0 p1 p2 p3 p4 p5 p6 : Prop) : Prop
  | mk (h0 : p0) (h1 : p1) (h2 : p2) (h3 : p3) (h4 : p4) (h5 : p5) (h6 : p6) : A7 p0 p1 p2 p3 p4 p5 p6
inductive A8 (p0 p1 p2 p3 p4 p5 p6 p7 : Prop) : Prop
  | mk (h0 : p0) (h1 : p1) (h2 : p2) (h3 : p3) (h4 : p4) (h5 : p5) (h6 : p6) (h7 : p7) : A8 p0 p1 p2 p3 p4 p5 p6 p7
inductive A9 (p0 p1 p2 p3 p4 p5 p6 p7 p8 : Prop) : Prop
  | mk (h0 : p0) (h1 : p1) (h2 : p2) (h3 : p3) (h4 : p4) (h5 : p5) (h6 : p6) (h7 : p7) (h8 : p8) : A9 p0 p1 p2 p3 p4 p5 p6 p7 p8
inductive A10 (p0 p1 p2 p3 p4 p5 p6 p7 p8 p9 : Prop) : Prop
  | mk (h0 : p0) (h1 : p1) (h2 : p2) (h3 : p3) (h4 : p4) (h5 : p5) (h6 : p6) (h7 : p7) (h8 : p8) (h9 : p9) : A10 p0 p1 p2 p3 p4 p5 p6 p7 p8 p9
inductive A11 (p0 p1 p2 p3 p4 p5 p6 p7 p8 p9 p10 : Prop) : Prop
  | mk (h0 : p0) (h1 : p1) (h2 : p2) (h3 : p3) (h4 : p4) (h5 : p5) (h6 : p6) (h7 : p7) (h8 : p8) (h9 : p9) (h10 : p10) : A11 p0 p1 p2 p3 p4 p5 p6 p7 p8 p9 p10
inductive A12 (p0 p1 p2 p3 p4 p5 p6 p7 p8 p9 p10 p11 : Prop) : Prop
  | mk (h0 : p0) (h1 : p1) (h2 : p2) (h3 : p3) (h4 : p4) (h5 : p5) (h6 : p6) (h7 : p7) (h8 : p8) (h9 : p9) (h10 : p10) (h11 : p11) : A12 p0 p1 p2 p3 p4 p5 p6 p7 p8 p9 p10 p11
inductive AV where
  | none | bool (b : Bool) | int (i : Int) | str (x : Str) | bytes (b : Array UInt8)
  | ref (r : Addr) | tup (ds : List AV) | lst (ds : List AV) | dct (kvs : List (Int × Int))

inductive MO where
  | list (vs : List AV) | dict (kvs : List (Int × Int))

noncomputable abbrev FM := Addr → Option Obj
noncomputable abbrev HM := Addr → Option MO
noncomputable abbrev SM := Str → Option AV

structure GC where
  prog : Program
  w : World
  h₀ : Heap
  s₀ : Shared
  mg : Str → Option Value
  mb : Str → Option Value

/-- a dict entry that bears an int under an int -/
noncomputable def DE (kv : Int × Int) (e : DictEntry) : Prop := (∃ t, e.key = .int kv.1 t) ∧ e.hash = hashInt kv.1 ∧ ∃ t, e.val = .int kv.2 t
noncomputable def DL : List (Int × Int) → List DictEntry → Prop
  | [], es => es = []
  | kv :: kvs, es => ∃ e r, es = e :: r ∧ DE kv e ∧ DL kvs r

noncomputable def DI (kvs : List (Int × Int)) (o : Obj) : Prop := o.ExactDict ∧ ∃ es n, o.data = .dict (List.toArray es) n ∧ DL kvs es ∧ (kvs.map (·.1)).Nodup

mutual
noncomputable def V (fz : FM) : AV → Value → Prop
  | .none, v => v = .none
  | .bool b, v => v = .bool b
  | .int i, v => ∃ t, v = .int i t
  | .str x, v => ∃ t, v = .str x t
  | .bytes b, v => ∃ t, v = .bytes b t
  | .ref r, v => v = .ref r
  | .tup ds, v => ∃ a vs o n, v = .ref a ∧ fz a = some o ∧ o.cls = .type "tuple" ∧ o.dict = none ∧ o.data = .seq (List.toArray vs) n ∧ VL fz ds vs
  | .lst ds, v => ∃ a vs o n, v = .ref a ∧ fz a = some o ∧ o.cls = .type "list" ∧ o.dict = none ∧ o.data = .seq (List.toArray vs) n ∧ VL fz ds vs
  | .dct kvs, v => ∃ a o, v = .ref a ∧ fz a = some o ∧ DI kvs o ∧ a ≠ sysModules
noncomputable def VL (fz : FM) : List AV → List Value → Prop
  | [], vs => vs = []
  | d :: ds, vs => ∃ v r, vs = v :: r ∧ V fz d v ∧ VL fz ds r
end

noncomputable def OV (fz : FM) : MO → Obj → Prop
  | .list ds, o => ∃ vs n, o = { cls := .type "list", data := .seq (List.toArray vs) n } ∧ VL fz ds vs
  | .dict kvs, o => DI kvs o

noncomputable def Sub {α β : Type} (f g : α → Option β) : Prop := ∀ a o, f a = some o → g a = some o
theorem Sub.refl {α β : Type} (f : α → Option β) : Sub f f := fun _ _ e => e
theorem Sub.trans {α β : Type} {f g h : α → Option β} (x : Sub f g) (y : Sub g h) : Sub f h := fun a o e => y a o (x a o e)

mutual
theorem V.mono {fz fz' : FM} (h : Sub fz fz') : ∀ {d : AV} {v : Value}, V fz d v → V fz' d v
  | .none, _, e => by simpa only [V] using e
  | .bool _, _, e => by simpa only [V] using e
  | .int _, _, e => by simpa only [V] using e
  | .str _, _, e => by simpa only [V] using e
  | .bytes _, _, e => by simpa only [V] using e
  | .ref _, _, e => by simpa only [V] using e
  | .tup ds, _, e => by
    simp only [V] at e ⊢
    obtain ⟨a, vs, o, n, e1, e2, e3, e4, e5, e6⟩ := e
    exact ⟨a, vs, o, n, e1, h _ _ e2, e3, e4, e5, VL.mono h e6⟩
  | .lst ds, _, e => by
    simp only [V] at e ⊢
    obtain ⟨a, vs, o, n, e1, e2, e3, e4, e5, e6⟩ := e
    exact ⟨a, vs, o, n, e1, h _ _ e2, e3, e4, e5, VL.mono h e6⟩
  | .dct kvs, _, e => by
    simp only [V] at e ⊢
    obtain ⟨a, o, e1, e2, e3⟩ := e
    exact ⟨a, o, e1, h _ _ e2, e3⟩
theorem VL.mono {fz fz' : FM} (h : Sub fz fz') : ∀ {ds : List AV} {vs : List Value}, VL fz ds vs → VL fz' ds vs
  | [], _, e => by simpa only [VL] using e
  | _ :: _, _, e => by
    simp only [VL] at e ⊢
    obtain ⟨v, r, e1, e2, e3⟩ := e
    exact ⟨v, r, e1, V.mono h e2, VL.mono h e3⟩
end
theorem OV.mono {fz fz' : FM} (h : Sub fz fz') {m : MO} {o : Obj} (e : OV fz m o) : OV fz' m o := by
  cases m with
  | list ds => obtain ⟨vs, n, e1, e2⟩ := e; exact ⟨vs, n, e1, e2.mono h⟩
  | dict kvs => exact e

/-- what may change: the frozen part grows by fresh things, or by own ones -/
noncomputable def Grow (kp fz fz' : FM) : Prop := Sub fz fz' ∧ ∀ a, fz' a ≠ none → fz a ≠ none ∨ kp a = none
theorem Grow.refl (kp fz : FM) : Grow kp fz fz := ⟨Sub.refl _, fun _ h => .inl h⟩
theorem Grow.trans {kp f g h : FM} (x : Grow kp f g) (y : Grow kp g h) : Grow kp f h :=
  ⟨x.1.trans y.1, fun a e => (y.2 a e).elim (fun e => x.2 a e) .inr⟩

structure RelH (G : GC) (kp fz : FM) (H : HM) (s : Shared) : Prop where
  same : ∃ h tk, s = { G.s₀ with heap := h, toks := tk }
  kept : ∀ a o, kp a = some o → s.heap.get? a = some o
  base : ∀ a o, G.h₀.get? a = some o → kp a = some o
  froz : ∀ a o, fz a = some o → s.heap.get? a = some o
  heap : ∀ r o, H r = some o → ∃ ob, s.heap.get? r = some ob ∧ OV fz o ob ∧ kp r = none ∧ fz r = none

structure RelE (kp fz : FM) (env : Env) (σ : SM) (H : HM) (s : Shared) : Prop where
  loc : ∃ m, s.heap.Ns env.locals m ∧ ∀ x v, σ x = some v → env.kindOf x = some .local → ∃ val, m x = some val ∧ V fz v val
  cel : ∀ x v, σ x = some v → env.kindOf x = some .cell ∨ env.kindOf x = some .free → ∃ c val, env.cells.lookup x = some c ∧ s.heap.IsCell c (some val) ∧ V fz v val
  own : ∀ x, env.kindOf x = some .cell → ∃ c v, env.cells.lookup x = some c ∧ s.heap.IsCell c v ∧ kp c = none ∧ fz c = none
  apart : ∀ x y c, env.cells.lookup x = some c → env.cells.lookup y = some c → x = y
  nL : kp env.locals = none ∧ fz env.locals = none ∧ H env.locals = none

structure Rel (G : GC) (kp fz : FM) (env : Env) (σ : SM) (H : HM) (s : Shared) : Prop where
  h : RelH G kp fz H s
  e : RelE kp fz env σ H s

structure GC.Ok (G : GC) : Prop where
  g : G.h₀.Ns mainGlobals G.mg
  b : G.h₀.Ns builtinsNs G.mb
  nolimit : G.h₀.NoLimit
  nodigits : ∃ mc, G.h₀.Ns cStatics mc ∧ mc "sys.int_max_str_digits" = none
  blt : ∀ x : Str, x ≠ "__name__" → G.mb x = bootBuiltins x
  free : ∀ x ∈ (["len", "sum", "range", "reversed", "max", "isinstance", "str", "tuple"] : List Str), G.mg x = none
  size : sysModules < G.h₀.objs.size
  sys : (G.h₀.get? sysModules).isSome = true

structure EnvOk (G : GC) (sc : Scope) (env : Env) : Prop where
  ok : G.Ok
  scope : env.scope = sc
  kind : sc.kind = .function
  globals : env.globals = mainGlobals
  builtins : env.builtins = builtinsNs

structure Good (n : Nat) (A : Around) : Prop where
  handled : A.handled = none
  depth : A.depth + 10 * n < 990
  units : A.units + 10 * n < 9800
inductive AF where
  | next | brk | cont | ret (v : AV)
noncomputable def FV (fz : FM) : AF → Flow → Prop
  | .next, f => f = .next
  | .brk, f => f = .brk
  | .cont, f => f = .cont
  | .ret d, f => ∃ v, f = .ret v ∧ V fz d v

section
variable (G : GC)
noncomputable def SE (n : Nat) (sc : Scope) (e : Expr) (σ : SM) (H : HM) (Q : AV → HM → Prop) : Prop :=
  ∀ (A : Around) (kp fz : FM) (env : Env) (s : Shared), Good n A → EnvOk G sc env → Rel G kp fz env σ H s →
    wpAny (model G.prog G.w) A (eval e env) (fun v s' => Ex3 fun fz' d H' => A4 (Grow kp fz fz') (Rel G kp fz' env σ H' s') (V fz' d v) (Q d H')) (fun _ _ => False) s
noncomputable def ST (n : Nat) (sc : Scope) (e : Expr) (σ : SM) (H : HM) (Q : Bool → HM → Prop) : Prop :=
  ∀ (A : Around) (kp fz : FM) (env : Env) (s : Shared), Good n A → EnvOk G sc env → Rel G kp fz env σ H s →
    wpAny (model G.prog G.w) A (isTrue e env (eval e env)) (fun b s' => Ex2 fun fz' H' => A3 (Grow kp fz fz') (Rel G kp fz' env σ H' s') (Q b H')) (fun _ _ => False) s
noncomputable def SA (n : Nat) (sc : Scope) (t : Expr) (d : AV) (σ : SM) (H : HM) (Q : SM → HM → Prop) : Prop :=
  ∀ (A : Around) (kp fz : FM) (env : Env) (s : Shared) (v : Value), Good n A → EnvOk G sc env → Rel G kp fz env σ H s → V fz d v →
    wpAny (model G.prog G.w) A (assign t env v) (fun _ s' => Ex3 fun fz' σ' H' => A3 (Grow kp fz fz') (Rel G kp fz' env σ' H' s') (Q σ' H')) (fun _ _ => False) s
noncomputable def S1 (n : Nat) (sc : Scope) (st : Stmt) (σ : SM) (H : HM) (Q : AF → SM → HM → Prop) : Prop :=
  ∀ (A : Around) (kp fz : FM) (env : Env) (s : Shared), Good n A → EnvOk G sc env → Rel G kp fz env σ H s →
    wpAny (model G.prog G.w) A (exec st env) (fun f s' => Ex4 fun fz' af σ' H' => A4 (Grow kp fz fz') (Rel G kp fz' env σ' H' s') (FV fz' af f) (Q af σ' H')) (fun _ _ => False) s
noncomputable def SS (n : Nat) (sc : Scope) (sts : List Stmt) (σ : SM) (H : HM) (Q : AF → SM → HM → Prop) : Prop :=
  ∀ (A : Around) (kp fz : FM) (env : Env) (s : Shared), Good n A → EnvOk G sc env → Rel G kp fz env σ H s →
    wpAny (model G.prog G.w) A (execs sts env) (fun f s' => Ex4 fun fz' af σ' H' => A4 (Grow kp fz fz') (Rel G kp fz' env σ' H' s') (FV fz' af f) (Q af σ' H')) (fun _ _ => False) s
end

noncomputable def up {α : Type} (f : Addr → Option α) (a : Addr) (o : α) : Addr → Option α := fun b => if b = a then some o else f b
noncomputable def del {α : Type} (f : Addr → Option α) (a : Addr) : Addr → Option α := fun b => if b = a then none else f b
noncomputable def sup (σ : SM) (x : Str) (v : AV) : SM := fun y => if y = x then some v else σ y
@[simp] theorem up_self {α : Type} (f : Addr → Option α) (a : Addr) (o : α) : up f a o a = some o := if_pos rfl
theorem up_ne {α : Type} (f : Addr → Option α) {a b : Addr} (o : α) (h : b ≠ a) : up f a o b = f b := if_neg h

section
variable {G : GC} {kp fz : FM} {env : Env} {σ : SM} {H : HM} {s : Shared}

theorem OV.notCell {fz : FM} {m : MO} {o : Obj} (h : OV fz m o) (v : Option Value) : o.data ≠ .cell v := by
  cases m with
  | list ds => obtain ⟨vs, n, rfl, _⟩ := h; exact fun e => nomatch e
  | dict kvs => obtain ⟨_, es, n, e, _⟩ := h; rw [e]; exact fun e => nomatch e

theorem RelH.weak {H' : HM} (R : RelH G kp fz H s) (h : Sub H' H) : RelH G kp fz H' s := ⟨R.same, R.kept, R.base, R.froz, fun r o e => R.heap r o (h r o e)⟩
theorem Rel.weak {σ' : SM} {H' : HM} (R : Rel G kp fz env σ H s) (hs : Sub σ' σ) (h : Sub H' H) : Rel G kp fz env σ' H' s :=
  ⟨R.h.weak h, ⟨let ⟨m, h1, h2⟩ := R.e.loc; ⟨m, h1, fun x v e => h2 x v (hs x v e)⟩, fun x v e => R.e.cel x v (hs x v e), R.e.own, R.e.apart,
    ⟨R.e.nL.1, R.e.nL.2.1, by
      cases hq : H' env.locals with
      | none => rfl
      | some o => have := h _ _ hq; rw [R.e.nL.2.2] at this; cases this⟩⟩⟩

theorem Rel.ne_cell {r c : Addr} {m : MO} {v : Option Value} (R : RelH G kp fz H s) (h : H r = some m) (hc : s.heap.IsCell c v) : c ≠ r := by
  rintro rfl
  obtain ⟨ob, h1, h2, _⟩ := R.heap _ _ h
  obtain ⟨o, h3, h4⟩ := hc
  rw [h1] at h3; cases h3
  exact h2.notCell _ h4

theorem RelH.ne_base {r a : Addr} {m : MO} {o : Obj} (R : RelH G kp fz H s) (h : H r = some m) (ha : G.h₀.get? a = some o) : r ≠ a := by
  rintro rfl
  obtain ⟨_, _, _, h3, _⟩ := R.heap _ _ h
  rw [R.base _ _ ha] at h3; cases h3

/-- nothing known is touched -/
theorem RelH.keeps {h' : Heap} {tk : Nat} (R : RelH G kp fz H s) (hk : ∀ b o, s.heap.get? b = some o → h'.get? b = some o) : RelH G kp fz H { s with heap := h', toks := tk } :=
  ⟨by obtain ⟨h, t, rfl⟩ := R.same; exact ⟨h', tk, rfl⟩, fun a o e => hk _ _ (R.kept a o e), R.base, fun a o e => hk _ _ (R.froz a o e),
    fun r o e => let ⟨ob, h1, h2⟩ := R.heap r o e; ⟨ob, hk _ _ h1, h2⟩⟩
theorem Rel.keeps {h' : Heap} {tk : Nat} (R : Rel G kp fz env σ H s) (hk : ∀ b o, s.heap.get? b = some o → h'.get? b = some o) : Rel G kp fz env σ H { s with heap := h', toks := tk } :=
  ⟨R.h.keeps hk, ⟨let ⟨m, h1, h2⟩ := R.e.loc; ⟨m, h1.keeps hk, h2⟩, fun x v e hx => let ⟨c, val, h1, h2, h3⟩ := R.e.cel x v e hx; ⟨c, val, h1, h2.keeps hk, h3⟩,
    fun x hx => let ⟨c, v, h1, h2, h3⟩ := R.e.own x hx; ⟨c, v, h1, h2.keeps hk, h3⟩, R.e.apart, R.e.nL⟩⟩
theorem Rel.tok {tk : Nat} (R : Rel G kp fz env σ H s) : Rel G kp fz env σ H { s with toks := tk } := R.keeps fun _ _ e => e

/-- a made object of the call's is changed -/
theorem RelH.setH {h' : Heap} {tk : Nat} {r : Addr} {m₀ m : MO} {ob : Obj} (R : RelH G kp fz H s) (hr : H r = some m₀) (hk : ∀ b o, b ≠ r → s.heap.get? b = some o → h'.get? b = some o)
    (ho : h'.get? r = some ob) (hv : OV fz m ob) : RelH G kp fz (up H r m) { s with heap := h', toks := tk } := by
  obtain ⟨ob₀, k1, k2, k3, k4⟩ := R.heap r m₀ hr
  refine ⟨by obtain ⟨h, t, rfl⟩ := R.same; exact ⟨h', tk, rfl⟩, fun a o e => hk _ _ ?_ (R.kept a o e), R.base, fun a o e => hk _ _ ?_ (R.froz a o e), fun r' o e => ?_⟩
  · rintro rfl; rw [k3] at e; cases e
  · rintro rfl; rw [k4] at e; cases e
  · unfold up at e
    split at e
    · rename_i h; subst h; cases e; exact ⟨ob, ho, hv, k3, k4⟩
    · rename_i h
      obtain ⟨ob', h1, h2⟩ := R.heap r' o e
      exact ⟨ob', hk _ _ h h1, h2⟩
theorem Rel.setH {h' : Heap} {tk : Nat} {r : Addr} {m₀ m : MO} {ob : Obj} (R : Rel G kp fz env σ H s) (hr : H r = some m₀) (hk : ∀ b o, b ≠ r → s.heap.get? b = some o → h'.get? b = some o)
    (ho : h'.get? r = some ob) (hv : OV fz m ob) : Rel G kp fz env σ (up H r m) { s with heap := h', toks := tk } := by
  have hL : env.locals ≠ r := by rintro e; have := R.e.nL.2.2; rw [e, hr] at this; cases this
  refine ⟨R.h.setH hr hk ho hv, ⟨?_, fun x v e hx => ?_, fun x hx => ?_, R.e.apart, R.e.nL.1, R.e.nL.2.1, by rw [up_ne _ _ hL]; exact R.e.nL.2.2⟩⟩
  · obtain ⟨mm, ⟨o, es, ep, q1, q2⟩, h2⟩ := R.e.loc
    exact ⟨mm, ⟨o, es, ep, hk _ _ hL q1, q2⟩, h2⟩
  · obtain ⟨c, val, h1, h2, h3⟩ := R.e.cel x v e hx
    have hc := Rel.ne_cell R.h hr h2
    obtain ⟨o, q1, q2⟩ := h2
    exact ⟨c, val, h1, ⟨o, hk _ _ hc q1, q2⟩, h3⟩
  · obtain ⟨c, v, h1, h2, h3⟩ := R.e.own x hx
    have hc := Rel.ne_cell R.h hr h2
    obtain ⟨o, q1, q2⟩ := h2
    exact ⟨c, v, h1, ⟨o, hk _ _ hc q1, q2⟩, h3⟩

theorem RelH.fresh {r : Addr} (R : RelH G kp fz H s) (hn : s.heap.get? r = none) : kp r = none ∧ fz r = none ∧ H r = none := by
  refine ⟨?_, ?_, ?_⟩
  · cases h : kp r with
    | none => rfl
    | some o => have := R.kept _ _ h; rw [hn] at this; cases this
  · cases h : fz r with
    | none => rfl
    | some o => have := R.froz _ _ h; rw [hn] at this; cases this
  · cases h : H r with
    | none => rfl
    | some o => obtain ⟨_, h1, _⟩ := R.heap _ _ h; rw [hn] at h1; cases h1
theorem Rel.ne_loc {r : Addr} (R : Rel G kp fz env σ H s) (hn : s.heap.get? r = none) : env.locals ≠ r := by
  rintro rfl
  obtain ⟨_, ⟨o, _, _, q1, _⟩, _⟩ := R.e.loc
  rw [hn] at q1; cases q1

/-- a new object of the call's own -/
theorem RelH.newH {h' : Heap} {tk : Nat} {r : Addr} {m : MO} {ob : Obj} (R : RelH G kp fz H s) (hn : s.heap.get? r = none) (hk : ∀ b o, s.heap.get? b = some o → h'.get? b = some o)
    (ho : h'.get? r = some ob) (hv : OV fz m ob) : RelH G kp fz (up H r m) { s with heap := h', toks := tk } := by
  obtain ⟨k3, k4, _⟩ := R.fresh hn
  have R' := R.keeps (tk := tk) hk
  refine ⟨R'.same, R'.kept, R'.base, R'.froz, fun r' o e => ?_⟩
  unfold up at e
  split at e
  · rename_i h; subst h; cases e; exact ⟨ob, ho, hv, k3, k4⟩
  · exact R'.heap r' o e
theorem Rel.newH {h' : Heap} {tk : Nat} {r : Addr} {m : MO} {ob : Obj} (R : Rel G kp fz env σ H s) (hn : s.heap.get? r = none) (hk : ∀ b o, s.heap.get? b = some o → h'.get? b = some o)
    (ho : h'.get? r = some ob) (hv : OV fz m ob) : Rel G kp fz env σ (up H r m) { s with heap := h', toks := tk } := by
  have R' := R.keeps (tk := tk) hk
  exact ⟨R.h.newH hn hk ho hv, R'.e.loc, R'.e.cel, R'.e.own, R'.e.apart, R'.e.nL.1, R'.e.nL.2.1, by rw [up_ne _ _ (R.ne_loc hn)]; exact R.e.nL.2.2⟩

theorem grow_up {r : Addr} {ob : Obj} (hf : fz r = none) (hk : kp r = none) : Grow kp fz (up fz r ob) := by
  refine ⟨fun a o e => ?_, fun a e => ?_⟩
  · unfold up; split
    · rename_i h; subst h; rw [hf] at e; cases e
    · exact e
  · unfold up at e; split at e
    · rename_i h; subst h; exact .inr hk
    · exact .inl e

theorem RelH.grow {fz' : FM} (R : RelH G kp fz H s) (g : Sub fz fz') (hf : ∀ a o, fz' a = some o → s.heap.get? a = some o) (hH : ∀ r m, H r = some m → fz' r = none) : RelH G kp fz' H s :=
  ⟨R.same, R.kept, R.base, hf, fun r m e => let ⟨ob, h1, h2, h3, _⟩ := R.heap r m e; ⟨ob, h1, h2.mono g, h3, hH r m e⟩⟩
theorem RelE.grow {fz' : FM} (R : RelE kp fz env σ H s) (g : Sub fz fz') (hL : fz' env.locals = none) (hc : ∀ x c, env.kindOf x = some .cell → env.cells.lookup x = some c → fz' c = none) : RelE kp fz' env σ H s :=
  ⟨let ⟨m, h1, h2⟩ := R.loc; ⟨m, h1, fun x v e hx => let ⟨val, q1, q2⟩ := h2 x v e hx; ⟨val, q1, q2.mono g⟩⟩, fun x v e hx => let ⟨c, val, q1, q2, q3⟩ := R.cel x v e hx; ⟨c, val, q1, q2, q3.mono g⟩,
    fun x hx => let ⟨c, v, q1, q2, q3, _⟩ := R.own x hx; ⟨c, v, q1, q2, q3, hc x c hx q1⟩, R.apart, R.nL.1, hL, R.nL.2.2⟩

/-- a new object that stays as it is -/
theorem Rel.newF {h' : Heap} {tk : Nat} {r : Addr} {ob : Obj} (R : Rel G kp fz env σ H s) (hn : s.heap.get? r = none) (hk : ∀ b o, s.heap.get? b = some o → h'.get? b = some o)
    (ho : h'.get? r = some ob) : Grow kp fz (up fz r ob) ∧ Rel G kp (up fz r ob) env σ H { s with heap := h', toks := tk } := by
  obtain ⟨k3, k4, k5⟩ := R.h.fresh hn
  have g := grow_up (ob := ob) k4 k3
  have R' := R.keeps (tk := tk) hk
  refine ⟨g, R'.h.grow g.1 (fun a o e => ?_) fun r' m e => ?_, R'.e.grow g.1 (by rw [up_ne _ _ (R.ne_loc hn)]; exact R.e.nL.2.1) fun x c hx hc => ?_⟩
  · unfold up at e; split at e
    · rename_i h; subst h; cases e; exact ho
    · exact R'.h.froz a o e
  · have : r' ≠ r := by rintro rfl; rw [k5] at e; cases e
    rw [up_ne _ _ this]; exact (R.h.heap r' m e).choose_spec.2.2.2
  · obtain ⟨c', v, q1, q2, q3, q4⟩ := R.e.own x hx
    rw [hc] at q1; cases q1
    have : c ≠ r := by rintro rfl; obtain ⟨o, q, _⟩ := q2; rw [hn] at q; cases q
    rw [up_ne _ _ this]; exact q4

/-- an object of the call's own is from now on left as it is -/
theorem Rel.freeze {r : Addr} {m : MO} (R : Rel G kp fz env σ H s) (hr : H r = some m) : ∃ ob, Grow kp fz (up fz r ob) ∧ Rel G kp (up fz r ob) env σ (del H r) s ∧ OV fz m ob := by
  obtain ⟨ob, h1, h2, h3, h4⟩ := R.h.heap r m hr
  have g := grow_up (ob := ob) h4 h3
  have hL : env.locals ≠ r := by rintro e; have := R.e.nL.2.2; rw [e, hr] at this; cases this
  have hsub : Sub (del H r) H := fun a o e => by unfold del at e; split at e; cases e; exact e
  have R' := R.weak (Sub.refl _) hsub
  refine ⟨ob, g, ⟨R'.h.grow g.1 (fun a o e => ?_) fun r' m' e => ?_, R'.e.grow g.1 (by rw [up_ne _ _ hL]; exact R.e.nL.2.1) fun x c hx hc => ?_⟩, h2⟩
  · unfold up at e; split at e
    · rename_i h; subst h; cases e; exact h1
    · exact R.h.froz a o e
  · have hne : r' ≠ r := by rintro rfl; unfold del at e; rw [if_pos rfl] at e; cases e
    rw [up_ne _ _ hne]; exact (R'.h.heap r' m' e).choose_spec.2.2.2
  · obtain ⟨c', v, q1, q2, q3, q4⟩ := R.e.own x hx
    rw [hc] at q1; cases q1
    rw [up_ne _ _ (Rel.ne_cell R.h hr q2)]; exact q4
end


section
variable {G : GC} {n : Nat} {sc : Scope} {σ : SM} {H : HM}

/-- the end of a step that hands on a value -/
noncomputable abbrev PV (G : GC) (kp fz : FM) (env : Env) (σ : SM) (Q : AV → HM → Prop) : Value → Shared → Prop :=
  fun v s' => Ex3 fun fz' d H' => A4 (Grow kp fz fz') (Rel G kp fz' env σ H' s') (V fz' d v) (Q d H')
noncomputable abbrev NoE : Value → Shared → Prop := fun _ _ => False

theorem PV.grow {kp fz fz₁ : FM} {env : Env} {Q : AV → HM → Prop} {v : Value} {s : Shared} (g : Grow kp fz fz₁) (h : PV G kp fz₁ env σ Q v s) : PV G kp fz env σ Q v s := by
  obtain ⟨fz', d, H', g', h, h2, h3⟩ := h
  exact ⟨fz', d, H', g.trans g', h, h2, h3⟩
theorem PV.now {kp fz : FM} {env : Env} {Q : AV → HM → Prop} {v : Value} {s : Shared} {d : AV} (R : Rel G kp fz env σ H s) (hv : V fz d v) (q : Q d H) : PV G kp fz env σ Q v s :=
  ⟨fz, d, H, .refl .., R, hv, q⟩

noncomputable def SV1 (G : GC) (n : Nat) (t : Value → Sem Value) (a : AV) (H : HM) (Q : AV → HM → Prop) : Prop :=
  ∀ (A : Around) (kp fz : FM) (env : Env) (σ : SM) (s : Shared) (va : Value), Good n A → G.Ok → Rel G kp fz env σ H s → V fz a va →
    wpAny (model G.prog G.w) A (t va) (PV G kp fz env σ Q) NoE s
noncomputable def SV2 (G : GC) (n : Nat) (t : Value → Value → Sem Value) (a b : AV) (H : HM) (Q : AV → HM → Prop) : Prop :=
  ∀ (A : Around) (kp fz : FM) (env : Env) (σ : SM) (s : Shared) (va vb : Value), Good n A → G.Ok → Rel G kp fz env σ H s → V fz a va → V fz b vb →
    wpAny (model G.prog G.w) A (t va vb) (PV G kp fz env σ Q) NoE s
noncomputable def SVL (G : GC) (n : Nat) (t : List Value → Sem Value) (ds : List AV) (H : HM) (Q : AV → HM → Prop) : Prop :=
  ∀ (A : Around) (kp fz : FM) (env : Env) (σ : SM) (s : Shared) (vs : List Value), Good n A → G.Ok → Rel G kp fz env σ H s → VL fz ds vs →
    wpAny (model G.prog G.w) A (t vs) (PV G kp fz env σ Q) NoE s

theorem SE.run {e : Expr} {Q : AV → HM → Prop} (h : SE G n sc e σ H Q) {A : Around} {kp fz : FM} {env : Env} {s : Shared} (g : Good n A) (ok : EnvOk G sc env) (R : Rel G kp fz env σ H s)
    {P : Value → Shared → Prop} (k : ∀ v s' fz' d H', Grow kp fz fz' → Rel G kp fz' env σ H' s' → V fz' d v → Q d H' → P v s') : wpAny (model G.prog G.w) A (eval e env) P NoE s :=
  wpAny_mono (h A kp fz env s g ok R) (fun v s' ⟨fz', d, H', g', R', hv, q⟩ => k v s' fz' d H' g' R' hv q) fun _ _ x => x
theorem SV2.run {t : Value → Value → Sem Value} {a b : AV} {Q : AV → HM → Prop} (h : SV2 G n t a b H Q) {A : Around} {kp fz : FM} {env : Env} {s : Shared} {va vb : Value} (g : Good n A) (ok : G.Ok)
    (R : Rel G kp fz env σ H s) (ha : V fz a va) (hb : V fz b vb) {P : Value → Shared → Prop} (k : ∀ v s' fz' d H', Grow kp fz fz' → Rel G kp fz' env σ H' s' → V fz' d v → Q d H' → P v s') :
    wpAny (model G.prog G.w) A (t va vb) P NoE s :=
  wpAny_mono (h A kp fz env σ s va vb g ok R ha hb) (fun v s' ⟨fz', d, H', g', R', hv, q⟩ => k v s' fz' d H' g' R' hv q) fun _ _ x => x
theorem SE.mono {e : Expr} {Q Q' : AV → HM → Prop} (h : SE G n sc e σ H Q) (k : ∀ d H', Q d H' → Q' d H') : SE G n sc e σ H Q' :=
  fun A kp fz env s g ok R => h.run g ok R fun _ _ fz' d H' g' R' hv q => ⟨fz', d, H', g', R', hv, k _ _ q⟩
/-! names and constants -/
noncomputable def varKind : Option NameKind → Bool
  | some .local | some .cell | some .free => true
  | _ => false

theorem SE.name {x : Str} {pos : Pos} {v : AV} {Q : AV → HM → Prop} (hv : σ x = some v) (q : Q v H) (hk : varKind (sc.names.lookup x) = true := by rfl)
    (hd : (x == ("__debug__" : Str)) = false := by rfl) (hn : (x == ("__classdict__" : Str)) = false := by rfl) : SE G n sc (.Name x pos) σ H Q := by
  intro A kp fz env s g ok R
  have hkind : env.scope.kind = .function := ok.scope ▸ ok.kind
  have hko : env.kindOf x = sc.names.lookup x := by unfold Env.kindOf; rw [ok.scope]
  refine wpAny_Name ?_ hd
  rw [← hko] at hk
  cases hq : env.kindOf x with
  | none => rw [hq] at hk; cases hk
  | some kd =>
    rw [hq] at hk
    cases kd with
    | «local» =>
      obtain ⟨m, h1, h2⟩ := R.e.loc
      obtain ⟨val, q1, q2⟩ := h2 x v hv hq
      exact wpAny_loadName_local hkind hq h1 q1 (PV.now R q2 q)
    | cell =>
      obtain ⟨c, val, q1, q2, q3⟩ := R.e.cel x v hv (.inl hq)
      exact wpAny_loadName_cell hkind hq q1 q2 (PV.now R q3 q)
    | free =>
      obtain ⟨c, val, q1, q2, q3⟩ := R.e.cel x v hv (.inr hq)
      exact wpAny_loadName_free hkind hq q1 q2 (PV.now R q3 q) hn
    | _ => cases hk

theorem SE.int {i : Int} {k : Nat} {pos : Pos} {Q : AV → HM → Prop} (q : Q (.int i) H) : SE G n sc (.Constant (.int i) k pos) σ H Q :=
  fun _ _ _ _ s _ _ R => wpAny_Constant_int (PV.now (R.tok (tk := s.toks + 1)) (by simp only [V]; exact ⟨_, rfl⟩) q)
theorem SE.cstr {x : Str} {k : Nat} {pos : Pos} {Q : AV → HM → Prop} (q : Q (.str x) H) : SE G n sc (.Constant (.str x) k pos) σ H Q :=
  fun _ _ _ _ s _ _ R => Calls.Constant_str (PV.now (R.tok (tk := s.toks + 1)) (by simp only [V]; exact ⟨_, rfl⟩) q)
theorem SE.cbytes {b : List UInt8} {k : Nat} {pos : Pos} {Q : AV → HM → Prop} (q : Q (.bytes b.toArray) H) : SE G n sc (.Constant (.bytes b) k pos) σ H Q := by
  intro A kp fz env s g ok R
  show wpAny _ _ (mkTextBytes b.toArray) _ _ _
  unfold mkTextBytes
  exact wpAny_bind (wpAny_fresh (wpAny_pure (PV.now (R.tok (tk := s.toks + 1)) (by simp only [V]; exact ⟨_, rfl⟩) q)))
theorem SE.cnone {k : Nat} {pos : Pos} {Q : AV → HM → Prop} (q : Q .none H) : SE G n sc (.Constant .none k pos) σ H Q :=
  fun _ _ _ _ _ _ _ R => wpAny_pure (PV.now R (by simp only [V]) q)
theorem SE.cbool {b : Bool} {k : Nat} {pos : Pos} {Q : AV → HM → Prop} (q : Q (.bool b) H) : SE G n sc (.Constant (.bool b) k pos) σ H Q :=
  fun _ _ _ _ _ _ _ R => wpAny_pure (PV.now R (by simp only [V]) q)

/-! operators -/
theorem SE.bin {l r : Expr} {op : Operator} {pos : Pos} {Q : AV → HM → Prop} (h : SE G n sc l σ H fun a H1 => SE G n sc r σ H1 fun b H2 => SV2 G n (binaryOp op) a b H2 Q) :
    SE G n sc (.BinOp l op r pos) σ H Q := by
  intro A kp fz env s g ok R
  refine wpAny_BinOp (h.run g ok R fun va s1 fz1 a H1 g1 R1 v1 h1 => h1.run g ok R1 fun vb s2 fz2 b H2 g2 R2 v2 h2 => ?_)
  exact h2.run g ok.ok R2 (v1.mono g2.1) v2 fun v s3 fz3 d H3 g3 R3 v3 q => ⟨fz3, d, H3, (g1.trans g2).trans g3, R3, v3, q⟩
theorem SE.cmp {l r : Expr} {op : CmpOp} {pos : Pos} {Q : AV → HM → Prop} (h : SE G n sc l σ H fun a H1 => SE G n sc r σ H1 fun b H2 => SV2 G n (compareOp op) a b H2 Q)
    (hm : behindInMarks op r = false := by rfl) : SE G n sc (.Compare l [op] [r] pos) σ H Q := by
  intro A kp fz env s g ok R
  refine wpAny_Compare1 (h.run g ok R fun va s1 fz1 a H1 g1 R1 v1 h1 => h1.run g ok R1 fun vb s2 fz2 b H2 g2 R2 v2 h2 => ?_) hm
  exact h2.run g ok.ok R2 (v1.mono g2.1) v2 fun v s3 fz3 d H3 g3 R3 v3 q => ⟨fz3, d, H3, (g1.trans g2).trans g3, R3, v3, q⟩

theorem ST.cmp {l r : Expr} {op : CmpOp} {pos : Pos} {Q : Bool → HM → Prop} (h : SE G n sc l σ H fun a H1 => SE G n sc r σ H1 fun b H2 => SV2 G n (compareOp op) a b H2 fun d H3 => Ex1 fun c => A2 (d = .bool c) (Q c H3))
    (hm : behindInMarks op r = false := by rfl) : ST G n sc (.Compare l [op] [r] pos) σ H Q := by
  intro A kp fz env s g ok R
  refine wpAny_isTrue_Compare1 (h.run g ok R fun va s1 fz1 a H1 g1 R1 v1 h1 => h1.run g ok R1 fun vb s2 fz2 b H2 g2 R2 v2 h2 => ?_) hm
  refine h2.run g ok.ok R2 (v1.mono g2.1) v2 fun v s3 fz3 d H3 g3 R3 v3 q => ?_
  obtain ⟨c, rfl, q⟩ := q
  simp only [V] at v3
  subst v3
  exact wpAny_truthy_bool ⟨fz3, H3, (g1.trans g2).trans g3, R3, q⟩

section
variable {i j : Int} {Q : AV → HM → Prop}
/-- a step upon two ints that hands on a plain value -/
theorem SV2.ints {t : Value → Value → Sem Value} {d : AV}
    (h : ∀ (A : Around) (s : Shared) (t1 t2 : Tok) (P : Value → Shared → Prop), A.handled = none → (∀ v tk, (∀ fz, V fz d v) → P v { s with toks := tk }) → wpAny (model G.prog G.w) A (t (.int i t1) (.int j t2)) P NoE s)
    (q : Q d H) : SV2 G n t (.int i) (.int j) H Q := by
  intro A kp fz env σ s va vb g ok R ha hb
  simp only [V] at ha hb
  obtain ⟨t1, rfl⟩ := ha
  obtain ⟨t2, rfl⟩ := hb
  exact h A s t1 t2 _ g.handled fun v tk hv => PV.now (R.tok (tk := tk)) (hv _) q
theorem V.anyInt (i : Int) (t : Tok) : ∀ fz, V fz (.int i) (.int i t) := fun _ => by simp only [V]; exact ⟨_, rfl⟩
theorem V.anyStr (i : Str) (t : Tok) : ∀ fz, V fz (.str i) (.str i t) := fun _ => by simp only [V]; exact ⟨_, rfl⟩
theorem V.anyBytes (i : Array UInt8) (t : Tok) : ∀ fz, V fz (.bytes i) (.bytes i t) := fun _ => by simp only [V]; exact ⟨_, rfl⟩
theorem V.anyBool (b : Bool) : ∀ fz, V fz (.bool b) (.bool b) := fun _ => by simp only [V]
theorem V.anyNone : ∀ fz, V fz .none .none := fun _ => by simp only [V]

theorem SV2.add (q : Q (.int (i + j)) H) : SV2 G n (binaryOp .Add) (.int i) (.int j) H Q := .ints (d := .int (i + j)) (fun _ _ _ _ _ _ k => add_int (k _ _ (V.anyInt _ _))) q
theorem SV2.sub (q : Q (.int (i - j)) H) : SV2 G n (binaryOp .Sub) (.int i) (.int j) H Q := .ints (d := .int (i - j)) (fun _ _ _ _ _ _ k => sub_int (k _ _ (V.anyInt _ _))) q
theorem SV2.iadd (q : Q (.int (i + j)) H) : SV2 G n (inplaceOp .Add) (.int i) (.int j) H Q := .ints (d := .int (i + j)) (fun _ _ _ _ _ _ k => iadd_int (k _ _ (V.anyInt _ _))) q
theorem SV2.mul (q : Q (.int (i * j)) H) (hm : IntMulOk i j) : SV2 G n (binaryOp .Mult) (.int i) (.int j) H Q := .ints (d := .int (i * j)) (fun _ _ _ _ _ _ k => mul_int (k _ _ (V.anyInt _ _)) hm) q
theorem SV2.mod (hb : j ≠ 0) (q : Q (.int (i.fmod j)) H) : SV2 G n (binaryOp .Mod) (.int i) (.int j) H Q := .ints (d := .int (i.fmod j)) (fun _ _ _ _ _ _ k => mod_int' hb (k _ _ (V.anyInt _ _))) q
theorem SV2.div (hb : j ≠ 0) (hp : Builtin.divisionGoesByPylong i j = false) (q : Q (.int (i.fdiv j)) H) : SV2 G n (binaryOp .FloorDiv) (.int i) (.int j) H Q :=
  .ints (d := .int (i.fdiv j)) (fun _ _ _ _ _ _ k => floordiv_int hb (k _ _ (V.anyInt _ _)) (.inl hp)) q
theorem SV2.lt (q : Q (.bool (decide (i < j))) H) : SV2 G n (compareOp .Lt) (.int i) (.int j) H Q := .ints (d := .bool _) (fun _ _ _ _ _ _ k => lt_int (k _ _ (V.anyBool _))) q
theorem SV2.gt (q : Q (.bool (decide (j < i))) H) : SV2 G n (compareOp .Gt) (.int i) (.int j) H Q := .ints (d := .bool _) (fun _ _ _ _ _ _ k => gt_int (k _ _ (V.anyBool _))) q
theorem SV2.eqi (q : Q (.bool (i == j)) H) : SV2 G n (compareOp .Eq) (.int i) (.int j) H Q := .ints (d := .bool _) (fun _ _ _ _ _ _ k => eq_int (k _ _ (V.anyBool _))) q
theorem SV2.nei (q : Q (.bool (i != j)) H) : SV2 G n (compareOp .NotEq) (.int i) (.int j) H Q := .ints (d := .bool _) (fun _ _ _ _ _ _ k => ne_int (k _ _ (V.anyBool _))) q
end
end


/-! what the kinds say of the heap -/
theorem VL.length {fz : FM} : ∀ {ds : List AV} {vs : List Value}, VL fz ds vs → vs.length = ds.length
  | [], _, h => by simp only [VL] at h; subst h; rfl
  | _ :: _, _, h => by simp only [VL] at h; obtain ⟨v, r, rfl, _, h⟩ := h; simp [VL.length h]
theorem VL.get {fz : FM} : ∀ {ds : List AV} {vs : List Value} {i : Nat} {d : AV}, VL fz ds vs → ds[i]? = some d → ∃ v, vs[i]? = some v ∧ V fz d v
  | [], _, _, _, _, e => by simp at e
  | _ :: _, _, 0, _, h, e => by
    simp only [VL] at h; obtain ⟨v, r, rfl, hv, _⟩ := h
    simp at e; subst e; exact ⟨v, rfl, hv⟩
  | _ :: _, _, i + 1, _, h, e => by
    simp only [VL] at h; obtain ⟨v, r, rfl, _, h⟩ := h
    simpa using VL.get h (by simpa using e)
theorem VL.append {fz : FM} : ∀ {ds es : List AV} {vs ws : List Value}, VL fz ds vs → VL fz es ws → VL fz (ds ++ es) (vs ++ ws)
  | [], _, _, _, h, k => by simp only [VL] at h; subst h; exact k
  | _ :: _, _, _, _, h, k => by
    simp only [VL, List.cons_append] at h ⊢
    obtain ⟨v, r, rfl, hv, h⟩ := h
    exact ⟨v, r ++ _, rfl, hv, VL.append h k⟩
theorem VL.one {fz : FM} {d : AV} {v : Value} (h : V fz d v) : VL fz [d] [v] := by simp only [VL]; exact ⟨v, [], rfl, h, rfl⟩
theorem VL.cons {fz : FM} {d : AV} {v : Value} {ds : List AV} {vs : List Value} (h : V fz d v) (k : VL fz ds vs) : VL fz (d :: ds) (v :: vs) := by simp only [VL]; exact ⟨v, vs, rfl, h, k⟩
theorem VL.nil {fz : FM} : VL fz [] [] := by simp only [VL]
theorem VL.drop {fz : FM} : ∀ (k : Nat) {ds : List AV} {vs : List Value}, VL fz ds vs → VL fz (ds.drop k) (vs.drop k)
  | 0, _, _, h => h
  | k + 1, [], _, h => by simp only [VL] at h; subst h; simp [VL]
  | k + 1, _ :: _, _, h => by simp only [VL] at h; obtain ⟨v, r, rfl, _, h⟩ := h; exact VL.drop k h
theorem VL.take {fz : FM} : ∀ (k : Nat) {ds : List AV} {vs : List Value}, VL fz ds vs → VL fz (ds.take k) (vs.take k)
  | 0, _, _, _ => by simp [VL]
  | k + 1, [], _, h => by simp only [VL] at h; subst h; simp [VL]
  | k + 1, _ :: _, _, h => by simp only [VL] at h; obtain ⟨v, r, rfl, hv, h⟩ := h; exact VL.cons hv (VL.take k h)
theorem VL.reverse {fz : FM} : ∀ {ds : List AV} {vs : List Value}, VL fz ds vs → VL fz ds.reverse vs.reverse
  | [], _, h => by simp only [VL] at h; subst h; exact VL.nil
  | _ :: _, _, h => by
    simp only [VL] at h; obtain ⟨v, r, rfl, hv, h⟩ := h
    rw [List.reverse_cons, List.reverse_cons]; exact (VL.reverse h).append (.one hv)
theorem VL.set {fz : FM} {d : AV} {v : Value} (hv : V fz d v) : ∀ (k : Nat) {ds : List AV} {vs : List Value}, VL fz ds vs → VL fz (ds.set k d) (vs.set k v)
  | _, [], _, h => by simp only [VL] at h; subst h; simp [VL]
  | 0, _ :: _, _, h => by simp only [VL] at h; obtain ⟨w, r, rfl, _, h⟩ := h; exact VL.cons hv h
  | k + 1, _ :: _, _, h => by simp only [VL] at h; obtain ⟨w, r, rfl, hw, h⟩ := h; exact VL.cons hw (VL.set hv k h)

noncomputable def intsOf (ns : List Int) : List AV := ns.map AV.int
theorem VL.ints {fz : FM} : ∀ {ns : List Int} {vs : List Value}, VL fz (intsOf ns) vs → ∃ xs : List (Int × Tok), vs = xs.map (fun p => Value.int p.1 p.2) ∧ xs.map (·.1) = ns
  | [], _, h => by simp only [intsOf, List.map_nil, VL] at h; subst h; exact ⟨[], rfl, rfl⟩
  | _ :: _, _, h => by
    simp only [intsOf, List.map_cons, VL, V] at h
    obtain ⟨v, r, rfl, ⟨t, rfl⟩, h⟩ := h
    obtain ⟨xs, rfl, rfl⟩ := VL.ints h
    exact ⟨(_, t) :: xs, rfl, rfl⟩
theorem intItems_of (xs : List (Int × Tok)) : (xs.map fun p => Value.int p.1 p.2).toArray = intItems xs.toArray := by simp [intItems]

section
variable {G : GC} {kp fz : FM} {env : Env} {σ : SM} {H : HM} {s : Shared}

/-- the datum is a list, made or left as it is -/
noncomputable def LstOf (H : HM) (d : AV) (ds : List AV) : Prop := d = .lst ds ∨ ∃ r, d = .ref r ∧ H r = some (.list ds)
theorem LstOf.at {d : AV} {ds : List AV} {v : Value} (R : RelH G kp fz H s) (h : LstOf H d ds) (hv : V fz d v) : ∃ a vs, v = .ref a ∧ s.heap.IsList a (List.toArray vs) ∧ VL fz ds vs ∧ ∃ o, s.heap.get? a = some o ∧ o.dict = none := by
  rcases h with rfl | ⟨r, rfl, hr⟩
  · simp only [V] at hv
    obtain ⟨a, vs, o, n, rfl, h1, h2, h3, h4, h5⟩ := hv
    exact ⟨a, vs, rfl, ⟨o, R.froz _ _ h1, h2, n, h4⟩, h5, o, R.froz _ _ h1, h3⟩
  · simp only [V] at hv
    obtain ⟨ob, h1, ⟨vs, n, rfl, h2⟩, _⟩ := R.heap _ _ hr
    exact ⟨r, vs, hv, ⟨_, h1, rfl, n, rfl⟩, h2, _, h1, rfl⟩
theorem V.tupAt {ds : List AV} {v : Value} (R : RelH G kp fz H s) (hv : V fz (.tup ds) v) : ∃ a vs, v = .ref a ∧ IsTup s.heap a (List.toArray vs) ∧ VL fz ds vs ∧ ∃ o, s.heap.get? a = some o ∧ o.dict = none := by
  simp only [V] at hv
  obtain ⟨a, vs, o, n, rfl, h1, h2, h3, h4, h5⟩ := hv
  exact ⟨a, vs, rfl, ⟨o, R.froz _ _ h1, h2, n, h4⟩, h5, o, R.froz _ _ h1, h3⟩
noncomputable def DctOf (H : HM) (d : AV) (kvs : List (Int × Int)) : Prop := d = .dct kvs ∨ ∃ r, d = .ref r ∧ H r = some (.dict kvs)
theorem DctOf.at {d : AV} {kvs : List (Int × Int)} {v : Value} (ok : G.Ok) (R : RelH G kp fz H s) (h : DctOf H d kvs) (hv : V fz d v) : ∃ a o, v = .ref a ∧ s.heap.get? a = some o ∧ DI kvs o ∧ a ≠ sysModules := by
  rcases h with rfl | ⟨r, rfl, hr⟩
  · simp only [V] at hv
    obtain ⟨a, o, rfl, h1, h2, h3⟩ := hv
    exact ⟨a, o, rfl, R.froz _ _ h1, h2, h3⟩
  · simp only [V] at hv
    obtain ⟨ob, h1, h2, _⟩ := R.heap _ _ hr
    obtain ⟨o, ho⟩ := Option.isSome_iff_exists.mp ok.sys
    exact ⟨r, ob, hv, h1, h2, R.ne_base hr ho⟩

noncomputable def tyOf (H : HM) : AV → Option String
  | .none => some "NoneType"
  | .bool _ => some "bool"
  | .int _ => some "int"
  | .str _ => some "str"
  | .bytes _ => some "bytes"
  | .tup _ => some "tuple"
  | .lst _ => some "list"
  | .dct _ => some "dict"
  | .ref r => match H r with
    | some (.list _) => some "list"
    | some (.dict _) => some "dict"
    | none => none
theorem tyOf_at {d : AV} {v : Value} {T : String} (ok : G.Ok) (R : RelH G kp fz H s) (hT : tyOf H d = some T) (hv : V fz d v) :
    s.TypeIs v T ∧ ∀ a, v = .ref a → ∃ ob, s.heap.get? a = some ob ∧ ob.dict = none := by
  have lst : ∀ {ds}, LstOf H d ds → s.TypeIs v "list" ∧ ∀ a, v = .ref a → ∃ ob, s.heap.get? a = some ob ∧ ob.dict = none := fun h => by
    obtain ⟨a, vs, rfl, h1, _, o, h2, h3⟩ := h.at R hv
    exact ⟨h1.typeIs, fun b e => by cases e; exact ⟨o, h2, h3⟩⟩
  have dct : ∀ {kvs}, DctOf H d kvs → s.TypeIs v "dict" ∧ ∀ a, v = .ref a → ∃ ob, s.heap.get? a = some ob ∧ ob.dict = none := fun h => by
    obtain ⟨a, o, rfl, h1, h2, _⟩ := h.at ok R hv
    exact ⟨⟨o, h1, h2.1.1⟩, fun b e => by cases e; exact ⟨o, h1, h2.1.2.1⟩⟩
  cases d with
  | none => simp only [V] at hv; subst hv; cases hT; exact ⟨rfl, fun _ e => nomatch e⟩
  | bool b => simp only [V] at hv; subst hv; cases hT; exact ⟨rfl, fun _ e => nomatch e⟩
  | int i => simp only [V] at hv; obtain ⟨t, rfl⟩ := hv; cases hT; exact ⟨rfl, fun _ e => nomatch e⟩
  | str i => simp only [V] at hv; obtain ⟨t, rfl⟩ := hv; cases hT; exact ⟨rfl, fun _ e => nomatch e⟩
  | bytes i => simp only [V] at hv; obtain ⟨t, rfl⟩ := hv; cases hT; exact ⟨rfl, fun _ e => nomatch e⟩
  | tup ds =>
    cases hT
    obtain ⟨a, vs, rfl, h1, _, o, h2, h3⟩ := V.tupAt R hv
    exact ⟨h1.typeIs, fun b e => by cases e; exact ⟨o, h2, h3⟩⟩
  | lst ds => cases hT; exact lst (.inl rfl)
  | dct kvs => cases hT; exact dct (.inl rfl)
  | ref r =>
    unfold tyOf at hT
    cases hr : H r with
    | none => simp [hr] at hT
    | some m =>
      cases m with
      | list ds => simp [hr] at hT; subst hT; exact lst (.inr ⟨r, rfl, hr⟩)
      | dict kvs => simp [hr] at hT; subst hT; exact dct (.inr ⟨r, rfl, hr⟩)
end

/-! arguments -/
noncomputable def isStar : Expr → Bool
  | .Starred .. => true
  | _ => false
theorem starEach_cons {e : Expr} {rest : List Expr} {env : Env} (h : isStar e = false) : starEach (e :: rest) env = (false, eval e env) :: starEach rest env := by
  cases e <;> first | rfl | cases h
theorem backTo_cons {pos : Pos} {t : Sem Value} {r : List (Bool × Sem Value)} : backTo pos ((false, t) :: r) = (false, t) :: backTo pos r := rfl

section
variable {G : GC} {n : Nat} {sc : Scope} {σ : SM} {H : HM}
noncomputable def SEs (G : GC) (n : Nat) (sc : Scope) : List Expr → List AV → SM → HM → (List AV → HM → Prop) → Prop
  | [], acc, _, H, Q => Q acc H
  | e :: es, acc, σ, H, Q => isStar e = false ∧ SE G n sc e σ H fun d H1 => SEs G n sc es (acc ++ [d]) σ H1 Q

theorem SEs.run : ∀ {es : List Expr} {acc : List AV} {H : HM} {Q : List AV → HM → Prop}, SEs G n sc es acc σ H Q → ∀ {A : Around} {kp fz : FM} {env : Env} {s : Shared} {vacc : List Value} {pos : Pos},
    Good n A → EnvOk G sc env → Rel G kp fz env σ H s → VL fz acc vacc → ∀ {P : List Value → Shared → Prop},
    (∀ vs s' fz' ds H', vs.length = es.length → Grow kp fz fz' → Rel G kp fz' env σ H' s' → VL fz' ds (vacc ++ vs) → Q ds H' → P vs s') → wpAny (model G.prog G.w) A (spliced (backTo pos (starEach es env))) P NoE s
  | [], acc, H, Q, h, A, kp, fz, env, s, vacc, pos, g, ok, R, hv, P, k => Calls.spliced_nil (k [] s fz acc H rfl (.refl ..) R (by rw [List.append_nil]; exact hv) h)
  | e :: es, acc, H, Q, ⟨hs, h⟩, A, kp, fz, env, s, vacc, pos, g, ok, R, hv, P, k => by
    rw [starEach_cons hs, backTo_cons]
    refine Calls.spliced_cons (h.run g ok R fun v s1 fz1 d H1 g1 R1 v1 h1 => ?_)
    refine SEs.run h1 g ok R1 ((hv.mono g1.1).append (.one v1)) fun vs s2 fz2 ds H2 hl g2 R2 v2 q => ?_
    exact k (v :: vs) s2 fz2 ds H2 (by simp [hl]) (g1.trans g2) R2 (by simpa using v2) q

theorem noStar_all : ∀ (es : List Expr) (pos : Pos) (env : Env), (es.all fun e => !isStar e) = true → (backTo pos (starEach es env)).any (·.1) = false
  | [], _, _, _ => rfl
  | e :: es, pos, env, h => by
    rw [List.all_cons, Bool.and_eq_true] at h
    have he : isStar e = false := by simpa using h.1
    rw [starEach_cons he, backTo_cons, List.any_cons, noStar_all es pos env h.2]; rfl
theorem SEs.noStar : ∀ {es : List Expr} {acc : List AV} {H : HM} {Q : List AV → HM → Prop}, SEs G n sc es acc σ H Q → es = [] ∨ ∃ e r, es = e :: r ∧ isStar e = false
  | [], _, _, _, _ => .inl rfl
  | e :: r, _, _, _, ⟨h, _⟩ => .inr ⟨e, r, rfl, h⟩

/-- arguments, plain -/
theorem SEs.args {es : List Expr} {Q : List AV → HM → Prop} (h : SEs G n sc es [] σ H Q) {A : Around} {kp fz : FM} {env : Env} {s : Shared} {pos : Pos} {f : Value}
    (g : Good n A) (ok : EnvOk G sc env) (R : Rel G kp fz env σ H s) {P : Args → Shared → Prop}
    (k : ∀ vs s' fz' ds H', Grow kp fz fz' → Rel G kp fz' env σ H' s' → VL fz' ds vs → Q ds H' → P ⟨vs, []⟩ s') :
    wpAny (model G.prog G.w) A (evalArgs f true (backTo pos (starEach es env)) []) P NoE s := by
  rcases h.noStar with rfl | ⟨e, r, rfl, he⟩
  · exact PySem.evalArgs_none (k [] s fz [] H (.refl ..) R VL.nil h)
  · have e1 := starEach_cons (rest := r) (env := env) he
    rw [e1, backTo_cons]
    refine Calls.evalArgs_plain ?_
    rw [← backTo_cons, ← e1]
    exact h.run g ok R VL.nil fun vs s' fz' ds H' _ g' R' hv q => k vs s' fz' ds H' g' R' (by simpa using hv) q

/-! calls of built-ins -/
noncomputable def freeNames : List Str := ["len", "sum", "range", "reversed", "max", "isinstance", "str", "tuple"]
theorem name_builtin {A : Around} {kp fz : FM} {env : Env} {s : Shared} {f : Str} {p : Pos} {v : Value} (ok : EnvOk G sc env) (R : Rel G kp fz env σ H s) (hx : sc.names.lookup f = some .globalImplicit)
    (hf : f ∈ (["len", "sum", "range", "reversed", "max", "isinstance", "str", "tuple"] : List Str)) (hb : bootBuiltins f = some v) {P : Value → Shared → Prop} (k : P v s)
    (hd : (f == ("__debug__" : Str)) = false) (hn : f ≠ "__name__") : wpAny (model G.prog G.w) A (eval (.Name f p) env) P NoE s := by
  have hkind : env.scope.kind = .function := ok.scope ▸ ok.kind
  have hko : env.kindOf f = some .globalImplicit := by unfold Env.kindOf; rw [ok.scope]; exact hx
  have hold : ∀ b o, G.h₀.get? b = some o → s.heap.get? b = some o := fun b o e => R.h.kept _ _ (R.h.base _ _ e)
  refine Name_function_global hkind hko (loadGlobal_builtin (mg := G.mg) (mb := G.mb) ?_ (ok.ok.free f hf) ?_ ((ok.ok.blt f hn).trans hb) k) hd
  · rw [ok.globals]; exact ok.ok.g.keeps hold
  · rw [ok.builtins]; exact ok.ok.b.keeps hold

theorem SE.callB {f : Str} {id : String} {args : List Expr} {pos p : Pos} {Q : AV → HM → Prop} (hx : sc.names.lookup f = some .globalImplicit)
    (hf : f ∈ (["len", "sum", "range", "reversed", "max", "isinstance", "str", "tuple"] : List Str)) (hb : bootBuiltins f = some (.builtin id)) (hns : (args.all fun e => !isStar e) = true)
    (hd : (f == ("__debug__" : Str)) = false) (hn : f ≠ "__name__")
    (h : SEs G n sc args [] σ H fun ds H1 => SVL G n (fun vs => call (.builtin id) vs) ds H1 Q) : SE G n sc (.Call (.Name f p) args [] pos) σ H Q := by
  intro A kp fz env s g ok R
  refine wpAny_Call_Name_kw (name_builtin ok R hx hf hb ?_ hd hn)
  refine Calls.callWith_builtin (noStar_all _ _ _ hns) (h.args g ok R fun vs s1 fz1 ds H1 g1 R1 v1 h1 => ?_)
  exact wpAny_mono (h1 A kp fz1 env σ s1 vs g ok.ok R1 v1) (fun v s2 p => p.grow g1) fun _ _ e => e

/-! displays -/
theorem SE.tuple {es : List Expr} {k : Nat} {pos : Pos} {Q : AV → HM → Prop} (h : SEs G n sc es [] σ H fun ds H1 => Q (.tup ds) H1) (hl : es.length ≤ 100 := by decide) : SE G n sc (.Tuple es k pos) σ H Q := by
  intro A kp fz env s g ok R
  refine Tuple_ (h.run g ok R VL.nil fun vs s1 fz1 ds H1 hl1 g1 R1 v1 q => ?_)
  have hlen : vs.length ≤ sizeLine := by rw [sizeLine_eq]; lia
  obtain ⟨g2, R2⟩ := R1.newF (tk := s1.toks) (h' := s1.heap.push { cls := .type "tuple", data := .seq (List.toArray vs) }) (ob := { cls := .type "tuple", data := .seq (List.toArray vs) })
    (Heap.get?_none_of_le (Nat.le_refl _)) (fun b o e => Heap.get?_push_of_some _ e) (Heap.get?_push_size _ rfl)
  refine wpAny_newObj_type ?_ (by show (List.toArray vs).size ≤ sizeLine; rw [List.size_toArray]; exact hlen)
  refine ⟨_, .tup ds, H1, g1.trans g2, R2, ?_, q⟩
  simp only [V]
  exact ⟨_, vs, _, 0, rfl, up_self .., rfl, rfl, rfl, by simpa using v1.mono g2.1⟩

theorem SE.list_any {es : List Expr} {pos : Pos} {Q : AV → HM → Prop} (h : SEs G n sc es [] σ H fun ds H1 => ∀ r, H1 r = none → Q (.ref r) (up H1 r (.list ds))) (hl : es.length ≤ 100 := by decide) : SE G n sc (.List es pos) σ H Q := by
  intro A kp fz env s g ok R
  refine List_ (h.run g ok R VL.nil fun vs s1 fz1 ds H1 hl1 g1 R1 v1 q => ?_)
  have hlen : vs.length ≤ sizeLine := by rw [sizeLine_eq]; lia
  have hn : s1.heap.get? s1.heap.objs.size = none := Heap.get?_none_of_le (Nat.le_refl _)
  refine wpAny_newObj_type ?_ (by show (List.toArray vs).size ≤ sizeLine; rw [List.size_toArray]; exact hlen)
  have R2 := R1.newH (tk := s1.toks) (h' := s1.heap.push { cls := .type "list", data := .seq (List.toArray vs) }) (ob := { cls := .type "list", data := .seq (List.toArray vs) }) (m := .list ds)
    hn (fun b o e => Heap.get?_push_of_some _ e) (Heap.get?_push_size _ rfl) ⟨vs, 0, rfl, by simpa using v1⟩
  exact ⟨fz1, .ref s1.heap.objs.size, _, g1, R2, by simp only [V], q _ (R1.h.fresh hn).2.2⟩
/-- a made list is left as it is from here on -/
theorem SE.leave {e : Expr} {Q : AV → HM → Prop} (h : SE G n sc e σ H fun d H1 => Ex2 fun r ds => A3 (d = .ref r) (H1 r = some (.list ds)) (Q (.lst ds) (del H1 r))) : SE G n sc e σ H Q := by
  intro A kp fz env s g ok R
  refine h.run g ok R fun v s1 fz1 d H1 g1 R1 v1 h1 => ?_
  obtain ⟨r, ds, rfl, hr, q⟩ := h1
  obtain ⟨ob, g2, R2, vs, k, rfl, v2⟩ := R1.freeze hr
  simp only [V] at v1
  refine ⟨_, .lst ds, _, g1.trans g2, R2, ?_, q⟩
  simp only [V]
  exact ⟨r, vs, _, k, v1, up_self .., rfl, rfl, rfl, v2.mono g2.1⟩
theorem del_up (H : HM) (r : Addr) (m : MO) (h : H r = none) : del (up H r m) r = H := by
  funext b; unfold del up; split
  · rename_i e; subst e; exact h.symm
  · rfl
theorem SE.list {es : List Expr} {pos : Pos} {Q : AV → HM → Prop} (h : SEs G n sc es [] σ H fun ds H1 => Q (.lst ds) H1) (hl : es.length ≤ 100 := by decide) : SE G n sc (.List es pos) σ H Q := by
  refine SE.leave (SE.list_any ?_ hl)
  have mono : ∀ {es : List Expr} {acc : List AV} {H : HM} {Q Q' : List AV → HM → Prop}, (∀ ds H, Q ds H → Q' ds H) → SEs G n sc es acc σ H Q → SEs G n sc es acc σ H Q' := by
    intro es
    induction es with
    | nil => intro acc H Q Q' k h; exact k _ _ h
    | cons e es ih => intro acc H Q Q' k h; exact ⟨h.1, h.2.mono fun d H' h' => ih k h'⟩
  exact mono (fun ds H1 q r hr => ⟨r, ds, rfl, up_self .., by rw [del_up _ _ _ hr]; exact q⟩) h

/-! methods -/
theorem SE.meth {o : Expr} {name : Str} {apos pos : Pos} {args : List Expr} {Q : AV → HM → Prop} {T id : String} (pa : PlainAttrs T) (slot : Slot T name id) (hty : typeOf (.builtin id) = pure (.type "method_descriptor"))
    (h : SE G n sc o σ H fun d H1 => tyOf H1 d = some T ∧ SEs G n sc args [] σ H1 fun ds H2 => SVL G n (fun vs => call (.builtin id) vs) (d :: ds) H2 Q)
    (hbase : ∀ env : Env, attributeBase o name env (eval o env) = eval o env := by intro _; rfl) (hns : (args.all fun e => !isStar e) = true := by rfl) (hfew : decide (args.length < 30) = true := by rfl)
    (hline : (apos.endLine == pos.line) = true := by rfl) : SE G n sc (.Call (.Attribute o name apos) args [] pos) σ H Q := by
  intro A kp fz env s g ok R
  have hall : ∀ (es : List Expr), (es.all fun e => !isStar e) = true → (backTo pos (starEach es env)).all (fun x => !x.1) = true := by
    intro es
    induction es with
    | nil => intro _; rfl
    | cons e es ih =>
      intro h
      rw [List.all_cons, Bool.and_eq_true] at h
      have he : isStar e = false := by simpa using h.1
      rw [starEach_cons he, backTo_cons, List.all_cons, ih h.2]; rfl
  refine wpAny_Call_method_late (hbase env) ?_ hline rfl ?_
  · have : decide (args.length + ([] : List Keyword).length + (if ([] : List Keyword).isEmpty then 0 else 1) < 30) = true := by simpa using hfew
    rw [this, hall _ hns]; rfl
  refine h.run g ok R fun v s1 fz1 d H1 g1 R1 v1 h1 => ?_
  obtain ⟨hT, h1⟩ := h1
  obtain ⟨ht, hd⟩ := tyOf_at ok.ok R1.h hT v1
  refine ⟨T, id, pa, slot, hty, ht, hd, ?_⟩
  refine Calls.callWith_builtin (noStar_all _ _ _ hns) (h1.args g ok R1 fun vs s2 fz2 ds H2 g2 R2 v2 h2 => ?_)
  exact wpAny_mono (h2 A kp fz2 env σ s2 (v :: vs) g ok.ok R2 (.cons (v1.mono g2.1) v2)) (fun v s3 p => p.grow (g1.trans g2)) fun _ _ e => e

/-! subscripts -/
theorem SE.sub {value slice : Expr} {pos : Pos} {Q : AV → HM → Prop} {T id : String} (hl : typeLookup (.type T) "__getitem__" = pure (some (.builtin id)))
    (h : SE G n sc value σ H fun d H1 => SE G n sc slice σ H1 fun i H2 => tyOf H2 d = some T ∧ SV2 G n getItem d i H2 Q) : SE G n sc (.Subscript value slice pos) σ H Q := by
  intro A kp fz env s g ok R
  refine Subscript_ (h.run g ok R fun vo s1 fz1 d H1 g1 R1 v1 h1 => h1.run g ok R1 fun vi s2 fz2 i H2 g2 R2 v2 h2 => ?_)
  obtain ⟨hT, h2⟩ := h2
  have ht := (tyOf_at ok.ok R2.h hT (v1.mono g2.1)).1
  have ho : ∃ ops, subscripted slice false vo vi = operate ops (getItem vo vi) := by
    unfold subscripted; split <;> first | exact ⟨_, rfl⟩ | contradiction
  obtain ⟨ops, ho⟩ := ho
  exact tail_any ht hl (h2.run g ok.ok R2 (v1.mono g2.1) v2 fun v s3 fz3 d' H3 g3 R3 v3 q => ⟨fz3, d', H3, (g1.trans g2).trans g3, R3, v3, q⟩) ho

noncomputable def SEo (G : GC) (n : Nat) (sc : Scope) (e : Option Expr) (σ : SM) (H : HM) (Q : Option Int → HM → Prop) : Prop := match e with
  | none => Q none H
  | some e => SE G n sc e σ H fun d H1 => Ex1 fun i => A2 (d = .int i) (Q (some i) H1)
theorem SEo.run {e : Option Expr} {Q : Option Int → HM → Prop} (h : SEo G n sc e σ H Q) {A : Around} {kp fz : FM} {env : Env} {s : Shared} (g : Good n A) (ok : EnvOk G sc env) (R : Rel G kp fz env σ H s)
    {P : Value → Shared → Prop} (k : ∀ v s' fz' i H', Grow kp fz fz' → Rel G kp fz' env σ H' s' → IsPart v i → (∃ p : Option (Int × Tok), v = partValue p ∧ p.map (·.1) = i) → Q i H' → P v s') : wpAny (model G.prog G.w) A (evalPart e env) P NoE s := by
  cases e with
  | none => exact wpAny_pure (k _ _ fz none H (.refl ..) R .none ⟨none, rfl, rfl⟩ h)
  | some e =>
    refine SE.run h g ok R fun v s1 fz1 d H1 g1 R1 v1 q => ?_
    obtain ⟨i, rfl, q⟩ := q
    simp only [V] at v1
    obtain ⟨t, rfl⟩ := v1
    exact k _ _ fz1 _ H1 g1 R1 (.int i t) ⟨some (i, t), rfl, rfl⟩ q

/-- a cut of a value by a made slice -/
noncomputable def SVS (G : GC) (n : Nat) (d : AV) (lo hi st : Option Int) (H : HM) (Q : AV → HM → Prop) : Prop :=
  ∀ (A : Around) (kp fz : FM) (env : Env) (σ : SM) (s : Shared) (vo : Value) (sl : Addr) (pl pu ps : Option (Int × Tok)), Good n A → G.Ok → Rel G kp fz env σ H s → V fz d vo →
    s.heap.IsSliceOf sl (partValue pl) (partValue pu) (partValue ps) → pl.map (·.1) = lo → pu.map (·.1) = hi → ps.map (·.1) = st →
    wpAny (model G.prog G.w) A (getItem vo (.ref sl)) (PV G kp fz env σ Q) NoE s

theorem SE.cut {value : Expr} {lower upper step : Option Expr} {p pos : Pos} {Q : AV → HM → Prop} {T id : String} (hl : typeLookup (.type T) "__getitem__" = pure (some (.builtin id)))
    (h : SE G n sc value σ H fun d H1 => SEo G n sc lower σ H1 fun lo H2 => SEo G n sc upper σ H2 fun hi H3 => SEo G n sc step σ H3 fun st H4 => tyOf H4 d = some T ∧ SVS G n d lo hi st H4 Q) :
    SE G n sc (.Subscript value (.Slice lower upper step p) pos) σ H Q := by
  intro A kp fz env s g ok R
  refine Subscript_ (h.run g ok R fun vo s1 fz1 d H1 g1 R1 v1 h1 => wpAny_Slice (h1.run g ok R1 fun vl s2 fz2 lo H2 g2 R2 p2 e2 h2 => h2.run g ok R2 fun vu s3 fz3 hi H3 g3 R3 p3 e3 h3 =>
    h3.run g ok R3 fun vs s4 fz4 st H4 g4 R4 p4 e4 h4 => ?_))
  obtain ⟨hT, h4⟩ := h4
  obtain ⟨pl, rfl, e2⟩ := e2
  obtain ⟨pu, rfl, e3⟩ := e3
  obtain ⟨ps, rfl, e4⟩ := e4
  have gg := ((g2.trans g3).trans g4)
  have R5 := R4.keeps (tk := s4.toks) (h' := s4.heap.push { cls := .type "slice", data := .fields #[partValue pl, partValue pu, partValue ps] }) fun b o e => Heap.get?_push_of_some _ e
  have ht := (tyOf_at ok.ok R5.h hT (v1.mono gg.1)).1
  have ho : ∃ ops, subscripted (.Slice lower upper step p) false vo (.ref s4.heap.objs.size) = operate ops (getItem vo (.ref s4.heap.objs.size)) := by
    unfold subscripted; split <;> first | exact ⟨_, rfl⟩ | contradiction
  obtain ⟨ops, ho⟩ := ho
  refine tail_any ht hl ?_ ho
  exact wpAny_mono (h4 A kp fz4 env σ _ vo _ pl pu ps g ok.ok R5 (v1.mono gg.1) (Heap.IsSliceOf.new ..) e2 e3 e4) (fun v s p => p.grow (g1.trans gg)) fun _ _ e => e
end


section
variable {G : GC} {kp fz : FM} {env : Env} {σ : SM} {H : HM} {s : Shared}

theorem Rel.storeL {x : Str} {d : AV} {v : Value} {m : Str → Option Value} {h' : Heap} {tk : Nat} (R : Rel G kp fz env σ H s) (hx : env.kindOf x = some .local) (hv : V fz d v)
    (hm : ∀ y e, σ y = some e → env.kindOf y = some .local → ∃ val, m y = some val ∧ V fz e val) (hn : h'.Ns env.locals (fun y => if y = x then some v else m y)) (hs : Heap.SameBut env.locals s.heap h') :
    Rel G kp fz env (sup σ x d) H { s with heap := h', toks := tk } := by
  have ne : ∀ {a : Addr}, kp a ≠ none ∨ fz a ≠ none ∨ H a ≠ none → a ≠ env.locals := by
    rintro a h rfl
    rcases h with h | h | h
    · exact h R.e.nL.1
    · exact h R.e.nL.2.1
    · exact h R.e.nL.2.2
  have cell : ∀ {c v}, s.heap.IsCell c v → h'.IsCell c v := fun {c v} hc => by
    refine hc.sameBut hs ?_
    rintro rfl
    obtain ⟨o, q1, q2⟩ := hc
    obtain ⟨_, ⟨o', es, ep, q3, q4, _⟩, _⟩ := R.e.loc
    rw [q1] at q3; cases q3; rw [q2] at q4; cases q4
  refine ⟨⟨by obtain ⟨h, t, rfl⟩ := R.h.same; exact ⟨h', tk, rfl⟩, fun a o e => (hs.2 a (ne (.inl (by rw [e]; exact fun h => nomatch h)))).trans (R.h.kept a o e), R.h.base,
    fun a o e => (hs.2 a (ne (.inr (.inl (by rw [e]; exact fun h => nomatch h))))).trans (R.h.froz a o e), fun r o e => ?_⟩,
    ⟨⟨_, hn, fun y e hy hk => ?_⟩, fun y e hy hk => ?_, fun y hy => ?_, R.e.apart, R.e.nL⟩⟩
  · obtain ⟨ob, h1, h2⟩ := R.h.heap r o e
    exact ⟨ob, (hs.2 r (ne (.inr (.inr (by rw [e]; exact fun h => nomatch h))))).trans h1, h2⟩
  · unfold sup at hy
    by_cases h : y = x
    · rw [if_pos h] at hy; cases hy; exact ⟨v, if_pos h, hv⟩
    · rw [if_neg h] at hy
      obtain ⟨val, q1, q2⟩ := hm y e hy hk
      exact ⟨val, (if_neg h).trans q1, q2⟩
  · unfold sup at hy
    by_cases h : y = x
    · subst h; rw [hx] at hk; rcases hk with hk | hk <;> cases hk
    · rw [if_neg h] at hy
      obtain ⟨c, val, q1, q2, q3⟩ := R.e.cel y e hy hk
      exact ⟨c, val, q1, cell q2, q3⟩
  · obtain ⟨c, v, q1, q2, q3⟩ := R.e.own y hy
    exact ⟨c, v, q1, cell q2, q3⟩

theorem Rel.storeC {x : Str} {d : AV} {v : Value} {c : Addr} {h' : Heap} {tk : Nat} (R : Rel G kp fz env σ H s) (hx : env.kindOf x = some .cell) (hv : V fz d v)
    (hc : env.cells.lookup x = some c) (hn : h'.IsCell c (some v)) (hs : Heap.SameBut c s.heap h') :
    Rel G kp fz env (sup σ x d) H { s with heap := h', toks := tk } := by
  obtain ⟨c', v₀, q1, q2, q3, q4⟩ := R.e.own x hx
  rw [hc] at q1; cases q1
  have neL : env.locals ≠ c := by
    rintro rfl
    obtain ⟨o, q1, q2⟩ := q2
    obtain ⟨_, ⟨o', es, ep, q3, q4, _⟩, _⟩ := R.e.loc
    rw [q1] at q3; cases q3; rw [q2] at q4; cases q4
  have ne : ∀ {a : Addr}, kp a ≠ none ∨ fz a ≠ none → a ≠ c := by
    rintro a h rfl
    rcases h with h | h
    · exact h q3
    · exact h q4
  have other : ∀ {y c' v}, y ≠ x → env.cells.lookup y = some c' → s.heap.IsCell c' v → h'.IsCell c' v := fun {y c' v} hy hc' h => by
    refine h.sameBut hs ?_
    rintro rfl
    exact hy (R.e.apart _ _ _ hc' hc)
  refine ⟨⟨by obtain ⟨h, t, rfl⟩ := R.h.same; exact ⟨h', tk, rfl⟩, fun a o e => (hs.2 a (ne (.inl (by rw [e]; exact fun h => nomatch h)))).trans (R.h.kept a o e), R.h.base,
    fun a o e => (hs.2 a (ne (.inr (by rw [e]; exact fun h => nomatch h)))).trans (R.h.froz a o e), fun r o e => ?_⟩,
    ⟨?_, fun y e hy hk => ?_, fun y hy => ?_, R.e.apart, R.e.nL⟩⟩
  · obtain ⟨ob, h1, h2⟩ := R.h.heap r o e
    exact ⟨ob, (hs.2 r (Ne.symm (Rel.ne_cell R.h e q2))).trans h1, h2⟩
  · obtain ⟨m, h1, h2⟩ := R.e.loc
    refine ⟨m, h1.sameBut hs neL, fun y e hy hk => ?_⟩
    unfold sup at hy
    by_cases h : y = x
    · subst h; rw [hx] at hk; cases hk
    · rw [if_neg h] at hy; exact h2 y e hy hk
  · unfold sup at hy
    by_cases h : y = x
    · rw [if_pos h] at hy; cases hy; subst h; exact ⟨c, v, hc, hn, hv⟩
    · rw [if_neg h] at hy
      obtain ⟨c', val, q1, q2, q3⟩ := R.e.cel y e hy hk
      exact ⟨c', val, q1, other h q1 q2, q3⟩
  · by_cases h : y = x
    · subst h; exact ⟨c, _, hc, hn, q3, q4⟩
    · obtain ⟨c', v, q1, q2, q3⟩ := R.e.own y hy
      exact ⟨c', v, q1, other h q1 q2, q3⟩
end

section
variable {G : GC} {n : Nat} {sc : Scope} {σ : SM} {H : HM}

noncomputable def ownKind : Option NameKind → Bool
  | some .local | some .cell => true
  | _ => false

theorem store_name {A : Around} {kp fz : FM} {env : Env} {s : Shared} {x : Str} {d : AV} {v : Value} (ok : EnvOk G sc env) (R : Rel G kp fz env σ H s) (hv : V fz d v)
    (hk : ownKind (sc.names.lookup x) = true) {P : Unit → Shared → Prop} (k : ∀ s', Rel G kp fz env (sup σ x d) H s' → P () s') : wpAny (model G.prog G.w) A (storeName env x v) P NoE s := by
  have hkind : env.scope.kind = .function := ok.scope ▸ ok.kind
  have hko : env.kindOf x = sc.names.lookup x := by unfold Env.kindOf; rw [ok.scope]
  rw [← hko] at hk
  cases hq : env.kindOf x with
  | none => rw [hq] at hk; cases hk
  | some kd =>
    rw [hq] at hk
    cases kd with
    | «local» =>
      obtain ⟨m, h1, h2⟩ := R.e.loc
      exact wpAny_storeName_local hq h1 (fun h' hn hs => k _ (R.storeL hq hv h2 hn hs)) (by rw [hkind]; rfl)
    | cell =>
      obtain ⟨c, v₀, q1, q2, q3⟩ := R.e.own x hq
      exact wpAny_storeName_cell hkind hq q1 q2 fun h' hn hs => k _ (R.storeC hq hv q1 hn hs)
    | _ => cases hk

theorem SA.name {x : Str} {pos : Pos} {d : AV} {Q : SM → HM → Prop} (hk : ownKind (sc.names.lookup x) = true) (q : Q (sup σ x d) H) : SA G n sc (.Name x pos) d σ H Q :=
  fun A kp fz env s v g ok R hv => wpAny_assign_Name (store_name ok R hv hk fun s' R' => ⟨fz, _, H, .refl .., R', q⟩)

theorem SA.run {t : Expr} {d : AV} {Q : SM → HM → Prop} (h : SA G n sc t d σ H Q) {A : Around} {kp fz : FM} {env : Env} {s : Shared} {v : Value} (g : Good n A) (ok : EnvOk G sc env) (R : Rel G kp fz env σ H s)
    (hv : V fz d v) {P : Unit → Shared → Prop} (k : ∀ s' fz' σ' H', Grow kp fz fz' → Rel G kp fz' env σ' H' s' → Q σ' H' → P () s') : wpAny (model G.prog G.w) A (assign t env v) P NoE s :=
  wpAny_mono (h A kp fz env s v g ok R hv) (fun _ s' ⟨fz', σ', H', g', R', q⟩ => k s' fz' σ' H' g' R' q) fun _ _ x => x
theorem SS.run {sts : List Stmt} {Q : AF → SM → HM → Prop} (h : SS G n sc sts σ H Q) {A : Around} {kp fz : FM} {env : Env} {s : Shared} (g : Good n A) (ok : EnvOk G sc env) (R : Rel G kp fz env σ H s)
    {P : Flow → Shared → Prop} (k : ∀ f s' fz' af σ' H', Grow kp fz fz' → Rel G kp fz' env σ' H' s' → FV fz' af f → Q af σ' H' → P f s') : wpAny (model G.prog G.w) A (execs sts env) P NoE s :=
  wpAny_mono (h A kp fz env s g ok R) (fun f s' ⟨fz', af, σ', H', g', R', hv, q⟩ => k f s' fz' af σ' H' g' R' hv q) fun _ _ x => x
theorem S1.run {st : Stmt} {Q : AF → SM → HM → Prop} (h : S1 G n sc st σ H Q) {A : Around} {kp fz : FM} {env : Env} {s : Shared} (g : Good n A) (ok : EnvOk G sc env) (R : Rel G kp fz env σ H s)
    {P : Flow → Shared → Prop} (k : ∀ f s' fz' af σ' H', Grow kp fz fz' → Rel G kp fz' env σ' H' s' → FV fz' af f → Q af σ' H' → P f s') : wpAny (model G.prog G.w) A (exec st env) P NoE s :=
  wpAny_mono (h A kp fz env s g ok R) (fun f s' ⟨fz', af, σ', H', g', R', hv, q⟩ => k f s' fz' af σ' H' g' R' hv q) fun _ _ x => x
theorem ST.run {e : Expr} {Q : Bool → HM → Prop} (h : ST G n sc e σ H Q) {A : Around} {kp fz : FM} {env : Env} {s : Shared} (g : Good n A) (ok : EnvOk G sc env) (R : Rel G kp fz env σ H s)
    {P : Bool → Shared → Prop} (k : ∀ b s' fz' H', Grow kp fz fz' → Rel G kp fz' env σ H' s' → Q b H' → P b s') : wpAny (model G.prog G.w) A (isTrue e env (eval e env)) P NoE s :=
  wpAny_mono (h A kp fz env s g ok R) (fun b s' ⟨fz', H', g', R', q⟩ => k b s' fz' H' g' R' q) fun _ _ x => x

/-! blocks -/
theorem SS.nil {Q : AF → SM → HM → Prop} (q : Q .next σ H) : SS G n sc [] σ H Q := fun A kp fz env s g ok R => wpAny_execs_nil ⟨fz, .next, σ, H, .refl .., R, rfl, q⟩
noncomputable abbrev nxt (G : GC) (n : Nat) (sc : Scope) (rest : List Stmt) (Q : AF → SM → HM → Prop) : AF → SM → HM → Prop := fun f σ1 H1 => match f with
  | .next => SS G n sc rest σ1 H1 Q
  | f => Q f σ1 H1
theorem SS.cons {st : Stmt} {rest : List Stmt} {Q : AF → SM → HM → Prop} (h : S1 G n sc st σ H (nxt G n sc rest Q)) : SS G n sc (st :: rest) σ H Q := by
  intro A kp fz env s g ok R
  refine wpAny_execs_cons (h.run g ok R fun f s1 fz1 af σ1 H1 g1 R1 hv h1 => ?_)
  cases af with
  | next =>
    simp only [FV] at hv; subst hv
    exact SS.run h1 g ok R1 fun f s2 fz2 af σ2 H2 g2 R2 hv q => ⟨fz2, af, σ2, H2, g1.trans g2, R2, hv, q⟩
  | brk => simp only [FV] at hv; subst hv; exact ⟨fz1, .brk, σ1, H1, g1, R1, rfl, h1⟩
  | cont => simp only [FV] at hv; subst hv; exact ⟨fz1, .cont, σ1, H1, g1, R1, rfl, h1⟩
  | ret d =>
    obtain ⟨v, rfl, hv⟩ := hv
    exact ⟨fz1, .ret d, σ1, H1, g1, R1, ⟨v, rfl, hv⟩, h1⟩
theorem SS.weak {sts : List Stmt} {σ' : SM} {H' : HM} {Q : AF → SM → HM → Prop} (hs : Sub σ' σ) (hh : Sub H' H) (h : SS G n sc sts σ' H' Q) : SS G n sc sts σ H Q :=
  fun A kp fz env s g ok R => h A kp fz env s g ok (R.weak hs hh)
theorem S1.ret {e : Expr} {pos : Pos} {Q : AF → SM → HM → Prop} (h : SE G n sc e σ H fun d H1 => Q (.ret d) σ H1) : S1 G n sc (.Return (some e) pos) σ H Q :=
  fun A kp fz env s g ok R => wpAny_Return_some (h.run g ok R fun v s1 fz1 d H1 g1 R1 v1 q => ⟨fz1, .ret d, σ, H1, g1, R1, ⟨v, rfl, v1⟩, q⟩)
theorem S1.ret0 {pos : Pos} {Q : AF → SM → HM → Prop} (q : Q (.ret .none) σ H) : S1 G n sc (.Return none pos) σ H Q :=
  fun A kp fz env s g ok R => wpAny_Return_none ⟨fz, .ret .none, σ, H, .refl .., R, ⟨.none, rfl, by simp only [V]⟩, q⟩
theorem S1.brk {pos : Pos} {Q : AF → SM → HM → Prop} (q : Q .brk σ H) : S1 G n sc (.Break pos) σ H Q := by
  intro A kp fz env s g ok R
  show wpAny _ _ (do standAt pos; pure Flow.brk) _ _ _
  exact wpAny_bind (wpAny_standAt (wpAny_pure ⟨fz, .brk, σ, H, .refl .., R, rfl, q⟩))

theorem S1.if {test : Expr} {body orelse : List Stmt} {pos : Pos} {Q : AF → SM → HM → Prop}
    (h : ST G n sc test σ H fun b H1 => (b = true → SS G n sc body σ H1 Q) ∧ (b = false → SS G n sc orelse σ H1 Q)) : S1 G n sc (.If test body orelse pos) σ H Q := by
  intro A kp fz env s g ok R
  refine wpAny_If (h.run g ok R fun b s1 fz1 H1 g1 R1 h1 => ?_)
  cases b with
  | true => exact (h1.1 rfl).run g ok R1 fun f s2 fz2 af σ2 H2 g2 R2 hv q => ⟨fz2, af, σ2, H2, g1.trans g2, R2, hv, q⟩
  | false => exact (h1.2 rfl).run g ok R1 fun f s2 fz2 af σ2 H2 g2 R2 hv q => ⟨fz2, af, σ2, H2, g1.trans g2, R2, hv, q⟩

noncomputable def isComp : Expr → Bool
  | .ListComp .. | .SetComp .. | .DictComp .. => true
  | _ => false
theorem swaps_no {value : Expr} (hc : isComp value = false) (t : Option Expr) (l : Nat) (env : Env) : swapsWith value t l env = pure false := by
  cases value <;> first | rfl | cases hc
noncomputable def isTupE : Expr → Bool
  | .Tuple .. => true
  | _ => false

theorem S1.expr {e : Expr} {pos : Pos} {Q : AF → SM → HM → Prop} (hc : isComp e = false) (h : SE G n sc e σ H fun _ H1 => Q .next σ H1) : S1 G n sc (.Expr e pos) σ H Q := by
  intro A kp fz env s g ok R
  have hkind : env.scope.kind = .function := ok.scope ▸ ok.kind
  rw [exec_Expr env e pos (by unfold interactive; rw [hkind]; rfl) (swaps_no hc none _ _)]
  exact wpAny_bind (wpAny_standAt (wpAny_bind (h.run g ok R fun v s1 fz1 d H1 g1 R1 v1 q => wpAny_dropValue ⟨fz1, .next, σ, H1, g1, R1, rfl, q⟩)))

theorem S1.assign {t value : Expr} {pos : Pos} {Q : AF → SM → HM → Prop} (hc : isComp value = false) (ht : isTupE value = false) (hs : isStar t = false)
    (h : SE G n sc value σ H fun d H1 => SA G n sc t d σ H1 fun σ2 H2 => Q .next σ2 H2) : S1 G n sc (.Assign [t] value pos) σ H Q := by
  intro A kp fz env s g ok R
  refine wpAny_Assign_stores (h.run g ok R fun v s1 fz1 d H1 g1 R1 v1 h1 => ?_) ?_ ?_
  · have e : (assignEach [t] env).map (·.2) = [PySem.assign t env] := by cases t <;> first | rfl | cases hs
    rw [e]
    exact h1.run g ok R1 v1 fun s2 fz2 σ2 H2 g2 R2 q => ⟨fz2, .next, σ2, H2, g1.trans g2, R2, rfl, q⟩
  · show swapsWith value (some t) _ _ = _
    exact swaps_no hc _ _ _
  · unfold swappedStores
    cases t <;> first | rfl | (cases value <;> first | rfl | cases ht)

theorem S1.aug {x : Str} {npos pos : Pos} {op : Operator} {value : Expr} {a : AV} {Q : AF → SM → HM → Prop} (ha : σ x = some a) (hk : ownKind (sc.names.lookup x) = true)
    (h : SE G n sc value σ H fun b H1 => SV2 G n (inplaceOp op) a b H1 fun d H2 => Q .next (sup σ x d) H2) : S1 G n sc (.AugAssign (.Name x npos) op value pos) σ H Q := by
  intro A kp fz env s g ok R
  have hkind : env.scope.kind = .function := ok.scope ▸ ok.kind
  have hko : env.kindOf x = sc.names.lookup x := by unfold Env.kindOf; rw [ok.scope]
  refine wpAny_AugAssign_Name ?_
  have main : ∀ va, V fz a va → wpAny (model G.prog G.w) A (eval value env) (fun v s₂ => wpAny (model G.prog G.w) A (inplaceOp op va v)
      (fun r s₃ => wpAny (model G.prog G.w) A (storeName env x r) (fun _ s' => Ex4 fun fz' af σ' H' => A4 (Grow kp fz fz') (Rel G kp fz' env σ' H' s') (FV fz' af .next) (Q af σ' H')) NoE s₃) NoE s₂) NoE s := fun va hva =>
    h.run g ok R fun vb s1 fz1 b H1 g1 R1 v1 h1 => h1.run g ok.ok R1 (hva.mono g1.1) v1 fun v s2 fz2 d H2 g2 R2 v2 q =>
      store_name ok R2 v2 hk fun s3 R3 => ⟨fz2, .next, _, H2, g1.trans g2, R3, rfl, q⟩
  have hk' := hk
  rw [← hko] at hk'
  cases hq : env.kindOf x with
  | none => rw [hq] at hk'; cases hk'
  | some kd =>
    rw [hq] at hk'
    cases kd with
    | «local» =>
      obtain ⟨m, h1, h2⟩ := R.e.loc
      obtain ⟨val, q1, q2⟩ := h2 x a ha hq
      exact wpAny_loadName_local hkind hq h1 q1 (main val q2)
    | cell =>
      obtain ⟨c, val, q1, q2, q3⟩ := R.e.cel x a ha (.inl hq)
      exact wpAny_loadName_cell hkind hq q1 q2 (main val q3)
    | _ => cases hk'

/-! targets that are tuples of names -/
noncomputable def SAs (G : GC) (n : Nat) (sc : Scope) : List Expr → List AV → SM → HM → (SM → HM → Prop) → Prop
  | [], [], σ, H, Q => Q σ H
  | t :: ts, d :: ds, σ, H, Q => isStar t = false ∧ SA G n sc t d σ H fun σ1 H1 => SAs G n sc ts ds σ1 H1 Q
  | _, _, _, _, _ => False
theorem SAs.len : ∀ {ts : List Expr} {ds : List AV} {σ : SM} {H : HM} {Q : SM → HM → Prop}, SAs G n sc ts ds σ H Q → True := fun _ => trivial
theorem assignEach_cons {t : Expr} {ts : List Expr} {env : Env} (h : isStar t = false) : assignEach (t :: ts) env = (false, assign t env) :: assignEach ts env := by
  cases t <;> first | rfl | cases h
theorem SAs.run : ∀ {ts : List Expr} {ds : List AV} {σ : SM} {H : HM} {Q : SM → HM → Prop}, SAs G n sc ts ds σ H Q → ∀ {A : Around} {kp fz : FM} {env : Env} {s : Shared} {vs : List Value}, Good n A → EnvOk G sc env →
    Rel G kp fz env σ H s → VL fz ds vs → ∀ {P : Unit → Shared → Prop}, (∀ s' fz' σ' H', Grow kp fz fz' → Rel G kp fz' env σ' H' s' → Q σ' H' → P () s') →
    wpAny (model G.prog G.w) A (assignInOrder ((assignEach ts env).map (·.2)) vs) P NoE s
  | [], [], σ, H, Q, h, A, kp, fz, env, s, vs, g, ok, R, hv, P, k => by
    simp only [VL] at hv; subst hv
    exact wpAny_pure (k s fz σ H (.refl ..) R h)
  | t :: ts, d :: ds, σ, H, Q, ⟨ht, h⟩, A, kp, fz, env, s, vs, g, ok, R, hv, P, k => by
    simp only [VL] at hv
    obtain ⟨v, r, rfl, v1, v2⟩ := hv
    rw [assignEach_cons ht]
    show wpAny _ _ (do holding r (assign t env v); assignInOrder ((assignEach ts env).map (·.2)) r) _ _ _
    refine wpAny_bind (wpAny_holding (h.run g ok R v1 fun s1 fz1 σ1 H1 g1 R1 h1 => ?_))
    exact SAs.run h1 g ok R1 (v2.mono g1.1) fun s2 fz2 σ2 H2 g2 R2 q => k s2 fz2 σ2 H2 (g1.trans g2) R2 q
  | [], _ :: _, _, _, _, h, _, _, _, _, _, _, _, _, _, _, _, _ => h.elim
  | _ :: _, [], _, _, _, h, _, _, _, _, _, _, _, _, _, _, _, _ => h.elim
theorem SAs.stars : ∀ {ts : List Expr} {ds : List AV} {σ : SM} {H : HM} {Q : SM → HM → Prop} (env : Env), (ts.all fun t => !isStar t) = true → ts.length = ds.length → (assignEach ts env).length = ds.length ∧ (assignEach ts env).findIdx? (·.1) = none
  | [], [], _, _, _, _, _, _ => ⟨rfl, rfl⟩
  | t :: ts, d :: ds, σ, H, Q, env, h, hl => by
    rw [List.all_cons, Bool.and_eq_true] at h
    have he : isStar t = false := by simpa using h.1
    obtain ⟨h1, h2⟩ := SAs.stars (σ := σ) (H := H) (Q := Q) env h.2 (by simpa using hl)
    rw [assignEach_cons he]
    exact ⟨by simp [h1], by simp [List.findIdx?_cons, h2]⟩
  | [], _ :: _, _, _, _, _, _, hl => by simp at hl
  | _ :: _, [], _, _, _, _, _, hl => by simp at hl
theorem SA.tuple {ts : List Expr} {k : Nat} {pos : Pos} {ds : List AV} {Q : SM → HM → Prop} (hs : (ts.all fun t => !isStar t) = true) (hl : ts.length = ds.length) (h : SAs G n sc ts ds σ H Q) :
    SA G n sc (.Tuple ts k pos) (.tup ds) σ H Q := by
  intro A kp fz env s v g ok R hv
  obtain ⟨a, vs, rfl, ht, hvs, _⟩ := V.tupAt R.h hv
  obtain ⟨h1, h2⟩ := SAs.stars (σ := σ) (H := H) (Q := Q) env hs hl
  refine assign_Tuple_tuple g.handled ht (by rw [h1, List.size_toArray, hvs.length]) h2 fun h' hx => ?_
  have R' := R.keeps (tk := s.toks) (h' := h') fun b o e => hx b o (Nat.ne_of_lt (Heap.lt_size e)) e
  exact h.run g ok R' (by simpa using hvs) fun s2 fz2 σ2 H2 g2 R2 q => ⟨fz2, σ2, H2, g2, R2, q⟩

/-! while -/
theorem S1.while {test : Expr} {body : List Stmt} {pos : Pos} {Q : AF → SM → HM → Prop} (I : Nat → SM → HM → Prop)
    (turn : ∀ k σ H, I k σ H → ST G n sc test σ H fun b H1 => (b = true → SS G n sc body σ H1 fun f σ2 H2 => match f with
        | .next | .cont => ∃ m, m < k ∧ I m σ2 H2
        | .brk => Q .next σ2 H2
        | .ret v => Q (.ret v) σ2 H2) ∧ (b = false → Q .next σ H1)) (k : Nat) (h0 : I k σ H) : S1 G n sc (.While test body [] pos) σ H Q := by
  intro A kp fz env s g ok R
  refine wpAny_While (codeAny_mono (codeAny_whileLoop (R := fun r s' => Ex5 fun f fz' af σ' H' => A5 (r = .ok f) (Grow kp fz fz') (Rel G kp fz' env σ' H' s') (FV fz' af f) (Q af σ' H'))
    (fun k s' => Ex3 fun fz' σ' H' => A3 (Grow kp fz fz') (Rel G kp fz' env σ' H' s') (I k σ' H')) ?_ k ⟨fz, σ, H, .refl .., R, h0⟩) ?_)
  · rintro k s1 ⟨fz1, σ1, H1, g1, R1, hI⟩
    refine wpAny_mono ((turn k σ1 H1 hI).run g ok R1 (P := fun b s₂ => if b = true then wpAny (model G.prog G.w) A (execs body env) _ (notedBy (model G.prog G.w) A env _) s₂ else wpAny (model G.prog G.w) A (execs [] env) _ (notedBy (model G.prog G.w) A env _) s₂)
      fun b s2 fz2 H2 g2 R2 h2 => ?_) (fun _ _ q => q) (fun _ _ x => x.elim)
    cases b with
    | true =>
      rw [if_pos rfl]
      refine wpAny_mono ((h2.1 rfl).run g ok R2 (P := fun f s₃ => match f with | .next | .cont => _ | .brk => _ | .ret v => _) fun f s3 fz3 af σ3 H3 g3 R3 hv q => ?_) (fun _ _ q => q) (fun _ _ x => x.elim)
      cases af with
      | next => simp only [FV] at hv; subst hv; obtain ⟨m, hm, q⟩ := q; exact ⟨m, hm, fz3, σ3, H3, (g1.trans g2).trans g3, R3, q⟩
      | cont => simp only [FV] at hv; subst hv; obtain ⟨m, hm, q⟩ := q; exact ⟨m, hm, fz3, σ3, H3, (g1.trans g2).trans g3, R3, q⟩
      | brk => simp only [FV] at hv; subst hv; exact ⟨_, fz3, .next, σ3, H3, rfl, (g1.trans g2).trans g3, R3, rfl, q⟩
      | ret d => obtain ⟨v, rfl, hv⟩ := hv; exact ⟨_, fz3, .ret d, σ3, H3, rfl, (g1.trans g2).trans g3, R3, ⟨v, rfl, hv⟩, q⟩
    | false =>
      rw [if_neg Bool.false_ne_true]
      exact wpAny_execs_nil ⟨_, fz2, .next, σ1, H2, rfl, g1.trans g2, R2, rfl, h2.2 rfl⟩
  · rintro r s' ⟨f, fz', af, σ', H', rfl, g', R', hv, q⟩
    exact ⟨fz', af, σ', H', g', R', hv, q⟩
end


section
variable {G : GC} {kp fz : FM} {env : Env} {σ : SM} {H : HM} {s : Shared}

/-- one thing that nobody knows of is changed -/
theorem RelH.keepsBut {h' : Heap} {tk : Nat} {I : Addr} (R : RelH G kp fz H s) (hk : kp I = none) (hf : fz I = none) (hH : H I = none) (k : ∀ b o, b ≠ I → s.heap.get? b = some o → h'.get? b = some o) :
    RelH G kp fz H { s with heap := h', toks := tk } :=
  ⟨by obtain ⟨h, t, rfl⟩ := R.same; exact ⟨h', tk, rfl⟩, fun a o e => k _ _ (by rintro rfl; rw [hk] at e; cases e) (R.kept a o e), R.base, fun a o e => k _ _ (by rintro rfl; rw [hf] at e; cases e) (R.froz a o e),
    fun r o e => let ⟨ob, h1, h2⟩ := R.heap r o e; ⟨ob, k _ _ (by rintro rfl; rw [hH] at e; cases e) h1, h2⟩⟩
theorem Rel.keepsBut {h' : Heap} {tk : Nat} {I : Addr} {ob : Obj} {fs : Array Value} (R : Rel G kp fz env σ H s) (hk : kp I = none) (hf : fz I = none) (hH : H I = none) (ho : s.heap.get? I = some ob) (hd : ob.data = .fields fs)
    (k : ∀ b o, b ≠ I → s.heap.get? b = some o → h'.get? b = some o) : Rel G kp fz env σ H { s with heap := h', toks := tk } := by
  have neL : env.locals ≠ I := by
    rintro rfl
    obtain ⟨_, ⟨o', es, ep, q3, q4, _⟩, _⟩ := R.e.loc
    rw [ho] at q3; cases q3; rw [hd] at q4; cases q4
  have cell : ∀ {c v}, s.heap.IsCell c v → h'.IsCell c v := fun {c v} hc => by
    obtain ⟨o, q1, q2⟩ := hc
    refine ⟨o, k _ _ ?_ q1, q2⟩
    rintro rfl
    rw [ho] at q1; cases q1; rw [hd] at q2; cases q2
  refine ⟨R.h.keepsBut hk hf hH k, ⟨?_, fun x v e hx => let ⟨c, val, h1, h2, h3⟩ := R.e.cel x v e hx; ⟨c, val, h1, cell h2, h3⟩, fun x hx => let ⟨c, v, h1, h2, h3⟩ := R.e.own x hx; ⟨c, v, h1, cell h2, h3⟩, R.e.apart, R.e.nL⟩⟩
  obtain ⟨m, ⟨o, es, ep, q1, q2⟩, h2⟩ := R.e.loc
  exact ⟨m, ⟨o, es, ep, k _ _ neL q1, q2⟩, h2⟩

/-- it may be held as it is -/
theorem Rel.hold {I : Addr} {ob : Obj} {fs : Array Value} (R : Rel G kp fz env σ H s) (hH : H I = none) (ho : s.heap.get? I = some ob) (hd : ob.data = .fields fs) :
    Rel G (up kp I ob) fz env σ H s := by
  have neL : env.locals ≠ I := by
    rintro rfl
    obtain ⟨_, ⟨o', es, ep, q3, q4, _⟩, _⟩ := R.e.loc
    rw [ho] at q3; cases q3; rw [hd] at q4; cases q4
  refine ⟨⟨R.h.same, fun a o e => ?_, fun a o e => ?_, R.h.froz, fun r o e => ?_⟩, ⟨R.e.loc, R.e.cel, fun x hx => ?_, R.e.apart, by rw [up_ne _ _ neL]; exact R.e.nL⟩⟩
  · unfold up at e; split at e
    · rename_i h; subst h; cases e; exact ho
    · exact R.h.kept a o e
  · unfold up; split
    · rename_i h; subst h
      have := R.h.kept _ _ (R.h.base _ _ e)
      rw [ho] at this; exact this
    · exact R.h.base a o e
  · obtain ⟨ob', h1, h2, h3, h4⟩ := R.h.heap r o e
    refine ⟨ob', h1, h2, ?_, h4⟩
    rw [up_ne _ _ (by rintro rfl; rw [hH] at e; cases e)]; exact h3
  · obtain ⟨c, v, h1, h2, h3, h4⟩ := R.e.own x hx
    refine ⟨c, v, h1, h2, ?_, h4⟩
    have : c ≠ I := by
      rintro rfl
      obtain ⟨o, q1, q2⟩ := h2
      rw [ho] at q1; cases q1; rw [hd] at q2; cases q2
    rw [up_ne _ _ this]; exact h3
theorem RelH.less {kp' : FM} (R : RelH G kp' fz H s) (hs : Sub kp kp') (hb : ∀ a o, G.h₀.get? a = some o → kp a = some o) : RelH G kp fz H s :=
  ⟨R.same, fun a o e => R.kept a o (hs a o e), hb, R.froz, fun r o e => by
    obtain ⟨ob, h1, h2, h3, h4⟩ := R.heap r o e
    refine ⟨ob, h1, h2, ?_, h4⟩
    cases h : kp r with
    | none => rfl
    | some o => rw [hs _ _ h] at h3; cases h3⟩
theorem sub_none {kp kp' : FM} (hs : Sub kp kp') {a : Addr} (h : kp' a = none) : kp a = none := by
  cases q : kp a with
  | none => rfl
  | some o => rw [hs _ _ q] at h; cases h
theorem Rel.less {kp' : FM} (R : Rel G kp' fz env σ H s) (hs : Sub kp kp') (hb : ∀ a o, G.h₀.get? a = some o → kp a = some o) : Rel G kp fz env σ H s :=
  ⟨R.h.less hs hb, ⟨R.e.loc, R.e.cel, fun x hx => let ⟨c, v, h1, h2, h3, h4⟩ := R.e.own x hx; ⟨c, v, h1, h2, sub_none hs h3, h4⟩, R.e.apart, sub_none hs R.e.nL.1, R.e.nL.2⟩⟩
theorem Grow.less {kp' fz' : FM} (g : Grow kp' fz fz') (hs : Sub kp kp') : Grow kp fz fz' := ⟨g.1, fun a e => (g.2 a e).imp id (sub_none hs)⟩
theorem sub_up {kp : FM} {I : Addr} {ob : Obj} (h : kp I = none) : Sub kp (up kp I ob) := fun a o e => by
  rw [up_ne _ _ (by rintro rfl; rw [h] at e; cases e)]; exact e
theorem Grow.none {fz' : FM} {I : Addr} {ob : Obj} (g : Grow (up kp I ob) fz fz') (h : fz I = none) : fz' I = none := by
  cases q : fz' I with
  | none => rfl
  | some o =>
    rcases g.2 I (by rw [q]; exact fun h => nomatch h) with h' | h'
    · exact absurd h h'
    · rw [up_self] at h'; cases h'
end

/-- an iterator that hands out ds, one by one -/
structure It (G : GC) (A : Around) (tgt : Expr) (I : Addr) (ds : List AV) (kp fz : FM) (fp : List Addr) (St : Nat → Heap → Prop) : Prop where
  frame : ∀ i h h', St i h → (∀ b, b = I ∨ b ∈ fp → ∀ o, h.get? b = some o → h'.get? b = some o) → St i h'
  ob : ∀ i h, St i h → ∃ o fs, h.get? I = some o ∧ o.data = .fields fs
  fix : ∀ b ∈ fp, ∃ o, kp b = some o ∨ fz b = some o
  item : ∀ i d (kp₁ fz₁ : FM) (env : Env) (σ₁ : SM) (H₁ : HM) (s₁ : Shared) (Q : Value → Shared → Prop), ds[i]? = some d → Sub kp kp₁ → Sub fz fz₁ → Rel G kp₁ fz₁ env σ₁ H₁ s₁ → kp₁ I = none → fz₁ I = none → H₁ I = none →
    St i s₁.heap → (∀ v s' fz', Grow kp₁ fz₁ fz' → Rel G kp₁ fz' env σ₁ H₁ s' → fz' I = none → V fz' d v → St (i + 1) s'.heap → Q v s') →
    wpAny (model G.prog G.w) A (pyNext (.ref I)) (fun r s1 => Ex1 fun v => A2 (r = some v) (wpAny (model G.prog G.w) A (letOwnedTupleGo tgt (.ref I) v) (fun _ s2 => Q v s2) NoE s1)) NoE s₁
  done : ∀ (kp₁ fz₁ : FM) (env : Env) (σ₁ : SM) (H₁ : HM) (s₁ : Shared) (Q : Shared → Prop), Sub kp kp₁ → Sub fz fz₁ → Rel G kp₁ fz₁ env σ₁ H₁ s₁ → kp₁ I = none → fz₁ I = none → H₁ I = none →
    St ds.length s₁.heap → (∀ s', Rel G kp₁ fz₁ env σ₁ H₁ s' → (∀ b o, b ≠ I → s₁.heap.get? b = some o → s'.heap.get? b = some o) → Q s') → wpAny (model G.prog G.w) A (pyNext (.ref I)) (fun r s1 => r = none ∧ Q s1) NoE s₁

section
variable {G : GC} {n : Nat} {sc : Scope}

noncomputable def ForW (G : GC) (n : Nat) (sc : Scope) (tgt : Expr) (body : List Stmt) (Q : AF → SM → HM → Prop) : List AV → SM → HM → Prop
  | [], σ, H => Q .next σ H
  | d :: ds, σ, H => SA G n sc tgt d σ H fun σ1 H1 => SS G n sc body σ1 H1 fun f σ2 H2 => match f with
    | .next | .cont => ForW G n sc tgt body Q ds σ2 H2
    | .brk => Q .next σ2 H2
    | .ret v => Q (.ret v) σ2 H2

theorem for_core {A : Around} {kp fz : FM} {env : Env} {σ : SM} {H : HM} {s : Shared} {tgt : Expr} {body : List Stmt} {I : Addr} {ds : List AV} {fp : List Addr} {St : Nat → Heap → Prop} {Q : AF → SM → HM → Prop}
    (W : It G A tgt I ds kp fz fp St) (g : Good n A) (ok : EnvOk G sc env) (R : Rel G kp fz env σ H s) (hk : kp I = none) (hf : fz I = none) (hH : H I = none) (h0 : St 0 s.heap) (hw : ForW G n sc tgt body Q ds σ H) :
    codeAny (model G.prog G.w) A (.forLoop tgt (.ref I) body [] env) (fun r s' => Ex5 fun f fz' af σ' H' => A5 (r = .ok f) (Grow kp fz fz') (Rel G kp fz' env σ' H' s') (FV fz' af f) (Q af σ' H')) s := by
  refine codeAny_forLoop_any (fun k s' => Ex4 fun i fz' σ' H' => A8 (k = ds.length + 1 - i) (i ≤ ds.length) (Grow kp fz fz') (Rel G kp fz' env σ' H' s') (fz' I = none) (H' I = none) (St i s'.heap) (ForW G n sc tgt body Q (ds.drop i) σ' H')) ?_
    (ds.length + 1) ⟨0, fz, σ, H, rfl, Nat.zero_le _, .refl .., R, hf, hH, h0, hw⟩
  rintro k s1 ⟨i, fz1, σ1, H1, rfl, hi, g1, R1, f1, n1, st1, w1⟩
  rcases Nat.lt_or_ge i ds.length with hlt | hge
  · have hd : ds[i]? = some ds[i] := List.getElem?_eq_getElem hlt
    rw [List.drop_eq_getElem_cons hlt] at w1
    unfold ForW at w1
    refine wpAny_mono (W.item i ds[i] kp fz1 env σ1 H1 s1 (fun v s2 => Ex1 fun fz2 => A5 (Grow kp fz1 fz2) (Rel G kp fz2 env σ1 H1 s2) (fz2 I = none) (V fz2 ds[i] v) (St (i + 1) s2.heap)) hd (Sub.refl _) g1.1 R1 hk f1 n1 st1
      fun v s' fz' a b c d e => ⟨fz', a, b, c, d, e⟩) (fun r s2 h2 => ?_) fun _ _ x => x.elim
    obtain ⟨v, rfl, h2⟩ := h2
    refine wpAny_mono h2 (fun _ s2 h2 => ?_) fun _ _ x => x.elim
    obtain ⟨fz2, g2, R2, f2, v2, st2⟩ := h2
    obtain ⟨ob, fs, ho, hdat⟩ := W.ob _ _ st2
    have R2' := R2.hold n1 ho hdat
    have hsub : Sub kp (up kp I ob) := sub_up hk
    have later : ∀ {fz3 σ3 H3 s3}, Grow (up kp I ob) fz2 fz3 → Rel G (up kp I ob) fz3 env σ3 H3 s3 → fz3 I = none ∧ H3 I = none ∧ St (i + 1) s3.heap := fun {fz3 σ3 H3 s3} g3 R3 => by
      refine ⟨g3.none f2, ?_, W.frame _ _ _ st2 fun b hb o e => ?_⟩
      · cases q : H3 I with
        | none => rfl
        | some m => have := (R3.h.heap _ _ q).choose_spec.2.2.1; rw [up_self] at this; cases this
      · rcases hb with rfl | hb
        · rw [ho] at e; cases e; exact R3.h.kept _ _ (up_self ..)
        · obtain ⟨o', ho'⟩ := W.fix b hb
          rcases ho' with ho' | ho'
          · have e1 := R2.h.kept _ _ ho'
            rw [e] at e1; cases e1
            exact R3.h.kept _ _ (hsub _ _ ho')
          · have e1 := R2.h.froz _ _ (g2.1 _ _ (g1.1 _ _ ho'))
            rw [e] at e1; cases e1
            exact R3.h.froz _ _ (g3.1 _ _ (g2.1 _ _ (g1.1 _ _ ho')))
    refine wpAny_mono (w1.run g ok R2' v2 (P := fun _ s3 => wpAny (model G.prog G.w) A (execs body env) _ _ s3) fun s3 fz3 σ3 H3 g3 R3 w3 => ?_) (fun _ _ q => q) fun _ _ x => x.elim
    refine wpAny_mono (w3.run g ok R3 (P := fun f s4 => match f with | .next | .cont => _ | .brk => _ | .ret v => _) fun f s4 fz4 af σ4 H4 g4 R4 hv w4 => ?_) (fun _ _ q => q) fun _ _ x => x.elim
    have g34 := g3.trans g4
    obtain ⟨f4, n4, st4⟩ := later g34 R4
    have R4' := R4.less hsub R.h.base
    have gg := (g1.trans g2).trans (g34.less hsub)
    cases af with
    | next => simp only [FV] at hv; subst hv; exact ⟨ds.length + 1 - (i + 1), by lia, i + 1, fz4, σ4, H4, rfl, hlt, gg, R4', f4, n4, st4, w4⟩
    | cont => simp only [FV] at hv; subst hv; exact ⟨ds.length + 1 - (i + 1), by lia, i + 1, fz4, σ4, H4, rfl, hlt, gg, R4', f4, n4, st4, w4⟩
    | brk => simp only [FV] at hv; subst hv; exact ⟨_, fz4, .next, σ4, H4, rfl, gg, R4', rfl, w4⟩
    | ret d => obtain ⟨v, rfl, hv⟩ := hv; exact ⟨_, fz4, .ret d, σ4, H4, rfl, gg, R4', ⟨v, rfl, hv⟩, w4⟩
  · have hi' : i = ds.length := Nat.le_antisymm hi hge
    subst hi'
    rw [List.drop_length] at w1
    refine wpAny_mono (W.done kp fz1 env σ1 H1 s1 (fun s2 => Rel G kp fz1 env σ1 H1 s2) (Sub.refl _) g1.1 R1 hk f1 n1 st1 fun s' a _ => a) (fun r s2 h2 => ?_) fun _ _ x => x.elim
    obtain ⟨rfl, R2⟩ := h2
    exact wpAny_execs_nil ⟨_, fz1, .next, σ1, H1, rfl, g1, R2, rfl, w1⟩

/-- an iterable: what it hands out -/
noncomputable def SI (G : GC) (n : Nat) (d : AV) (tgt : Expr) (H : HM) (ds : List AV) (H' : HM) : Prop :=
  ∀ (A : Around) (kp fz : FM) (env : Env) (σ : SM) (s : Shared) (v : Value), Good n A → G.Ok → Rel G kp fz env σ H s → V fz d v →
    wpAny (model G.prog G.w) A (pyIter v) (fun it s' => Ex4 fun I fp St kp' => A9 (it = .ref I) (Sub kp kp') (It G A tgt I ds kp' fz fp St) (Rel G kp' fz env σ H' s') ((∀ r m, H r = some m → H' r = none → ∃ ob, kp' r = some ob ∧ OV fz m ob)) (kp' I = none) (fz I = none) (H' I = none) (St 0 s'.heap)) NoE s
end


noncomputable def ownedNames : List String := ["enumerate", "zip", "dict_itemiterator", "dict_reverseitemiterator", "odict_iterator", "itertools.zip_longest", "itertools.pairwise"]
theorem letGo_no {M : Model} {A : Around} {E : Value → Shared → Prop} {s : Shared} {tgt : Expr} {I : Addr} {v : Value} {o : Obj} {T : String} {fs : Array Value} {Q : Unit → Shared → Prop} (ho : s.heap.get? I = some o) (hc : o.cls = .type T)
    (hd : o.data = .fields fs) (hT : ownedNames.contains T = false) (h : Q () s) : wpAny M A (letOwnedTupleGo tgt (.ref I) v) Q E s := by
  have main : wpAny M A (do
      let (.ref r, .ref a) := ((Value.ref I), v) | return
      let o ← load r
      match o.cls, o.data with
      | .type n, .fields vs =>
        if ["enumerate", "zip", "dict_itemiterator", "dict_reverseitemiterator", "odict_iterator", "itertools.zip_longest", "itertools.pairwise"].contains n && vs[0]? == some (rawInt a) then
          rule "for.unpacks-the-owned-tuple"
          updateField r 0 .none
      | _, _ => pure () : Sem Unit) Q E s := by
    cases v with
    | ref a =>
      refine wpAny_bind (wpAny_load ho ?_)
      rw [hc, hd]
      show wpAny M A (if (ownedNames.contains T && fs[0]? == some (rawInt a)) = true then _ else _) Q E s
      rw [hT, Bool.false_and, if_neg Bool.false_ne_true]
      exact wpAny_pure h
    | _ => exact wpAny_pure h
  unfold letOwnedTupleGo
  cases tgt with
  | Tuple _ _ _ => exact main
  | List _ _ => exact main
  | _ => exact wpAny_pure h

section
variable {G : GC}

theorem It.ofWalks {A : Around} {tgt : Expr} {I : Addr} {fw : List Addr} {nn : Nat} {P : Nat → Value → Prop} {St : Nat → Heap → Prop} {ds : List AV} {kp fz : FM} {fp : List Addr}
    (W : Walks G.prog G.w A I fw [I] nn P St) (hn : nn = ds.length) (hfw : ∀ b ∈ fw, b = I ∨ b ∈ fp)
    (hT : ∀ i h, St i h → ∃ o fs T, h.get? I = some o ∧ o.cls = .type T ∧ o.data = .fields fs ∧ ownedNames.contains T = false) (hfix : ∀ b ∈ fp, ∃ o, kp b = some o ∨ fz b = some o)
    (hP : ∀ i d v fz', ds[i]? = some d → Sub fz fz' → P i v → V fz' d v) : It G A tgt I ds kp fz fp St where
  frame := fun i h h' st hk => W.frame i h h' st fun b hb o e => hk b (hfw b hb) o e
  ob := fun i h st => let ⟨o, fs, T, h1, _, h3, _⟩ := hT i h st; ⟨o, fs, h1, h3⟩
  fix := hfix
  item := fun i d kp₁ fz₁ env σ₁ H₁ s₁ Q hd hs1 hs2 R hk hf hH st hQ => by
    have hi : i < nn := by rw [hn]; exact (List.getElem?_eq_some_iff.mp hd).1
    refine W.item i s₁ _ NoE hi st fun v h' tk hp st' hkeep => ⟨v, rfl, ?_⟩
    obtain ⟨o, fs, T, e1, e2, e3, e4⟩ := hT _ _ st'
    obtain ⟨o₀, fs₀, _, q1, _, q3, _⟩ := hT _ _ st
    have R' := R.keepsBut (tk := tk) (h' := h') hk hf hH q1 q3 fun b o hb e => hkeep b o (by simpa using hb) e
    exact letGo_no (s := { s₁ with heap := h', toks := tk }) e1 e2 e3 e4 (hQ v _ fz₁ (.refl ..) R' hf (hP i d v fz₁ hd hs2 hp) st')
  done := fun kp₁ fz₁ env σ₁ H₁ s₁ Q hs1 hs2 R hk hf hH st hQ => by
    obtain ⟨o₀, fs₀, _, q1, _, q3, _⟩ := hT _ _ st
    refine W.done s₁ _ NoE (hn ▸ st) fun h' tk hkeep => ⟨rfl, hQ _ (R.keepsBut (tk := tk) (h' := h') hk hf hH q1 q3 fun b o hb e => hkeep b o (by simpa using hb) e) fun b o hb e => hkeep b o (by simpa using hb) e⟩

/-- what an iterator comes of: of a list that stays -/
theorem it_list {A : Around} {kp fz : FM} {env : Env} {σ : SM} {H : HM} {s : Shared} {l : Addr} {o : Obj} {vs : List Value} {k : Nat} {ds : List AV} {tgt : Expr} (hh : A.handled = none) (R : Rel G kp fz env σ H s)
    (hl : kp l = some o ∨ fz l = some o) (hc : o.cls = .type "list") (hd : o.data = .seq (List.toArray vs) k) (hv : VL fz ds vs) {P : Value → Shared → Prop}
    (kk : ∀ I s' St fp, I = s.heap.objs.size → It G A tgt I ds kp fz fp St → (∀ i (s' : Shared) (Q : Value → Shared → Prop), St i s'.heap → Q (.ref I) s' → wpAny (model G.prog G.w) A (pyIter (.ref I)) Q NoE s') → Rel G kp fz env σ H s' → kp I = none → fz I = none → H I = none → St 0 s'.heap → P (.ref I) s') :
    wpAny (model G.prog G.w) A (pyIter (.ref l)) P NoE s := by
  have hg : s.heap.get? l = some o := hl.elim (fun e => R.h.kept _ _ e) fun e => R.h.froz _ _ e
  have hL : s.heap.IsList l (List.toArray vs) := ⟨o, hg, hc, k, hd⟩
  have hne : l ≠ s.heap.objs.size := Nat.ne_of_lt (Heap.lt_size hg)
  have hnone : s.heap.get? s.heap.objs.size = none := Heap.get?_none_of_le (Nat.le_refl _)
  obtain ⟨f1, f2, f3⟩ := R.h.fresh hnone
  have W := Walks.list (prog := G.prog) (w := G.w) (A := A) hh s.heap.objs.size l hne (List.toArray vs)
  refine wpAny_pyIter_list hL (kk _ _ _ [l] rfl (It.ofWalks W (by rw [List.size_toArray, hv.length]) (fun b hb => by simpa using hb) (fun i h st => ?_) (fun b hb => ?_) fun i d v fz' hd hs hp => ?_)
    (fun i s' Q st hQ => W.self i s' Q NoE st hQ) (R.keeps fun b o e => Heap.get?_push_of_some _ e) f1 f2 f3 ⟨⟨_, Heap.get?_push_size _ rfl, rfl, rfl⟩, hL.push _⟩)
  · obtain ⟨⟨o, e1, e2, e3⟩, _⟩ := st
    exact ⟨o, _, "list_iterator", e1, e2, e3, by decide⟩
  · rw [List.mem_singleton] at hb; subst hb; exact ⟨o, hl⟩
  · obtain ⟨v', e1, e2⟩ := hv.get hd
    have : v' = v := Option.some.inj (e1.symm.trans (by simpa using hp))
    subst this; exact e2.mono hs

/-- an iterable, as a for or a comprehension has it -/
noncomputable def SIt (G : GC) (n : Nat) (sc : Scope) (iter tgt : Expr) (σ : SM) (H : HM) (Q : List AV → HM → Prop) : Prop :=
  ∀ (A : Around) (kp fz : FM) (env : Env) (s : Shared), Good n A → EnvOk G sc env → Rel G kp fz env σ H s →
    wpAny (model G.prog G.w) A (eval iter env) (fun x s1 => wpAny (model G.prog G.w) A (pyIter x) (fun it s2 => Ex6 fun fz' H' ds I fp St => A10 (it = .ref I) (Grow kp fz fz') (It G A tgt I ds kp fz' fp St) ((∀ i (s' : Shared) (Q : Value → Shared → Prop), St i s'.heap → Q (.ref I) s' → wpAny (model G.prog G.w) A (pyIter (.ref I)) Q NoE s')) (Rel G kp fz' env σ H' s2) (kp I = none) (fz' I = none) (H' I = none) (St 0 s2.heap) (Q ds H')) NoE s1) NoE s

variable {n : Nat} {sc : Scope} {σ : SM} {H : HM}
theorem SIt.list {iter tgt : Expr} {Q : List AV → HM → Prop} (h : SE G n sc iter σ H fun d H1 => Ex1 fun ds => A2 (d = .lst ds) (Q ds H1)) : SIt G n sc iter tgt σ H Q := by
  intro A kp fz env s g ok R
  refine h.run g ok R fun v s1 fz1 d H1 g1 R1 v1 q => ?_
  obtain ⟨ds, rfl, q⟩ := q
  simp only [V] at v1
  obtain ⟨a, vs, o, k, rfl, h1, h2, h3, h4, h5⟩ := v1
  exact it_list g.handled R1 (.inr h1) h2 h4 h5 fun I s' St fp _ W self R' f1 f2 f3 st => ⟨fz1, H1, ds, I, fp, St, rfl, g1, W, self, R', f1, f2, f3, st, q⟩

noncomputable def isSetE : Expr → Bool
  | .Set .. => true
  | _ => false
theorem fold_no {iter : Expr} (h : isSetE iter = false) (env : Env) (x : Value) : foldedSetIterable iter env x = pure x := by
  cases iter <;> first | rfl | cases h

theorem S1.for {tgt iter : Expr} {body : List Stmt} {pos : Pos} {Q : AF → SM → HM → Prop} (h : SIt G n sc iter tgt σ H fun ds H1 => ForW G n sc tgt body Q ds σ H1)
    (hs : isSetE iter = false := by rfl) : S1 G n sc (.For tgt iter body [] pos) σ H Q := by
  intro A kp fz env s g ok R
  refine wpAny_For (wpAny_mono (h A kp fz env s g ok R) (fun x s1 h1 => wpAny_mono h1 (fun it s2 h2 => ?_) fun _ _ x => x) fun _ _ x => x) (fold_no hs env)
  obtain ⟨fz', H', ds, I, fp, St, rfl, g1, W, _, R1, f1, f2, f3, st, q⟩ := h2
  refine codeAny_mono (for_core W g ok R1 f1 f2 f3 st q) fun r s' h3 => ?_
  obtain ⟨f, fz2, af, σ', H2, rfl, g2, R2, hv, q⟩ := h3
  exact ⟨fz2, af, σ', H2, g1.trans g2, R2, hv, q⟩

/-! a made list is held while it is run over -/
theorem Rel.holdH {kp fz : FM} {env : Env} {s : Shared} {r : Addr} {m : MO} (R : Rel G kp fz env σ H s) (hr : H r = some m) :
    ∃ ob, s.heap.get? r = some ob ∧ Rel G (up kp r ob) fz env σ (del H r) s ∧ OV fz m ob ∧ kp r = none ∧ fz r = none := by
  obtain ⟨ob, h1, h2, h3, h4⟩ := R.h.heap r m hr
  have hL : env.locals ≠ r := by rintro e; have := R.e.nL.2.2; rw [e, hr] at this; cases this
  have R' := R.weak (Sub.refl _) (fun a o e => by unfold del at e; split at e; cases e; exact e : Sub (del H r) H)
  refine ⟨ob, h1, ⟨⟨R'.h.same, fun a o e => ?_, fun a o e => ?_, R'.h.froz, fun r' o e => ?_⟩, ⟨R'.e.loc, R'.e.cel, fun x hx => ?_, R'.e.apart, by rw [up_ne _ _ hL]; exact R'.e.nL⟩⟩, h2, h3, h4⟩
  · unfold up at e; split at e
    · rename_i h; subst h; cases e; exact h1
    · exact R.h.kept a o e
  · rw [up_ne _ _ (R.h.ne_base hr e).symm]; exact R.h.base a o e
  · obtain ⟨ob', q1, q2, q3, q4⟩ := R'.h.heap r' o e
    have : r' ≠ r := by rintro rfl; unfold del at e; rw [if_pos rfl] at e; cases e
    exact ⟨ob', q1, q2, by rw [up_ne _ _ this]; exact q3, q4⟩
  · obtain ⟨c, v, q1, q2, q3, q4⟩ := R.e.own x hx
    exact ⟨c, v, q1, q2, by rw [up_ne _ _ (Rel.ne_cell R.h hr q2)]; exact q3, q4⟩
theorem Rel.unholdH {kp fz fz' : FM} {env : Env} {s : Shared} {r : Addr} {m : MO} {ob : Obj} (R : Rel G (up kp r ob) fz' env σ H s) (g : Grow (up kp r ob) fz fz') (hb : ∀ a o, G.h₀.get? a = some o → kp a = some o)
    (hk : kp r = none) (hf : fz r = none) (hv : OV fz m ob) : Rel G kp fz' env σ (up H r m) s := by
  have R' := R.less (sub_up hk) hb
  have hfr : fz' r = none := g.none hf
  have hg : s.heap.get? r = some ob := R.h.kept _ _ (up_self ..)
  have hL : env.locals ≠ r := by rintro e; have := R.e.nL.1; rw [e, up_self] at this; cases this
  refine ⟨⟨R'.h.same, R'.h.kept, R'.h.base, R'.h.froz, fun r' o e => ?_⟩, ⟨R'.e.loc, R'.e.cel, R'.e.own, R'.e.apart, R'.e.nL.1, R'.e.nL.2.1, by rw [up_ne _ _ hL]; exact R'.e.nL.2.2⟩⟩
  unfold up at e; split at e
  · rename_i h; subst h; cases e; exact ⟨ob, hg, hv.mono g.1, hk, hfr⟩
  · exact R'.h.heap r' o e

theorem S1.forRef {tgt iter : Expr} {body : List Stmt} {pos : Pos} {Q : AF → SM → HM → Prop}
    (h : SE G n sc iter σ H fun d H1 => Ex2 fun r ds => A3 (d = .ref r) (H1 r = some (.list ds)) (ForW G n sc tgt body (fun f σ' H' => Q f σ' (up H' r (.list ds))) ds σ (del H1 r)))
    (hs : isSetE iter = false := by rfl) : S1 G n sc (.For tgt iter body [] pos) σ H Q := by
  intro A kp fz env s g ok R
  refine wpAny_For (h.run g ok R fun v s1 fz1 d H1 g1 R1 v1 q => ?_) (fold_no hs env)
  obtain ⟨r, ds, rfl, hr, q⟩ := q
  simp only [V] at v1; subst v1
  obtain ⟨ob, hg, R2, ⟨vs, k, rfl, hv⟩, hk, hf⟩ := R1.holdH hr
  refine it_list (tgt := tgt) g.handled R2 (.inl (up_self ..)) rfl rfl hv fun I s' St fp _ W self R' f1 f2 f3 st => ?_
  refine codeAny_mono (for_core W g ok R' f1 f2 f3 st q) fun r' s' h3 => ?_
  obtain ⟨f, fz2, af, σ', H2, rfl, g2, R3, hfv, q⟩ := h3
  exact ⟨fz2, af, σ', _, g1.trans (g2.less (sub_up hk)), R3.unholdH (m := .list ds) g2 R.h.base hk hf ⟨vs, k, rfl, hv⟩, hfv, q⟩
end


/-- what is known of a def of the text -/
structure Fn (G : GC) (f : Str) (names : List Str) (dds : List AV) (k : Nat) (sc : Scope) (body : List Stmt) : Prop where
  ex : ∃ fa o fd dvals, G.mg f = some (.ref fa) ∧ G.h₀.get? fa = some o ∧ o.data = .func fd ∧ fd.body = .stmts body ∧ fd.scope = sc ∧ fd.closure = [] ∧ fd.globals = mainGlobals ∧ fd.builtins = builtinsNs ∧
    G.h₀.CodeRec fd.code fd.qualname ∧ (∀ fz, VL fz dds dvals) ∧ ∀ (s : Shared) (vs : List Value), (∀ b o, G.h₀.get? b = some o → s.heap.get? b = some o) → vs.length = k → BindsTo s fd ⟨vs, []⟩ (names.zip (vs ++ dvals))

noncomputable def noH : HM := fun _ => none
noncomputable def argsOf (names : List Str) (ds : List AV) : SM := fun x => (names.zip ds).lookup x

noncomputable def SC (G : GC) (n : Nat) (f : Str) (ds : List AV) (H : HM) (Q : AV → HM → Prop) : Prop :=
  ∃ fa o fd, G.mg f = some (.ref fa) ∧ G.h₀.get? fa = some o ∧ o.data = .func fd ∧ ∀ (A : Around) (kp fz : FM) (s : Shared) (vs : List Value), Good n A → G.Ok → RelH G kp fz H s → VL fz ds vs →
    wpAny (model G.prog G.w) A (call (.ref fa) vs) (fun v s' => Ex3 fun fz' d H' => A4 (Grow kp fz fz') (RelH G kp fz' H' s') (V fz' d v) (Q d H')) NoE s

theorem bindL_other {kindOf : Str → Option NameKind} : ∀ (binds : List (Str × Value)) (m : Str → Option Value) (x : Str), (∀ p ∈ binds, p.1 ≠ x) → bindL kindOf binds m x = m x
  | [], _, _, _ => rfl
  | (n, v) :: r, m, x, h => by
    unfold bindL
    rw [bindL_other r _ x fun p hp => h p (.tail _ hp)]
    have : x ≠ n := (h (n, v) (.head _)).symm
    split <;> simp [this]
theorem bindC_other {kindOf : Str → Option NameKind} : ∀ (binds : List (Str × Value)) (m : Str → Option Value) (x : Str), (∀ p ∈ binds, p.1 ≠ x) → bindC kindOf binds m x = m x
  | [], _, _, _ => rfl
  | (n, v) :: r, m, x, h => by
    unfold bindC
    rw [bindC_other r _ x fun p hp => h p (.tail _ hp)]
    have : x ≠ n := (h (n, v) (.head _)).symm
    split <;> simp [this]
theorem zip_notin {α β : Type} {x : α} : ∀ (ns : List α) (vs : List β), x ∉ ns → ∀ p ∈ ns.zip vs, p.1 ≠ x
  | [], _, _, p, hp => by simp at hp
  | _ :: _, [], _, p, hp => by simp at hp
  | n :: ns, v :: vs, h, p, hp => by
    rw [List.zip_cons_cons] at hp
    rcases List.mem_cons.mp hp with rfl | hp
    · exact fun e => h (e ▸ .head _)
    · exact zip_notin ns vs (fun q => h (.tail _ q)) p hp
theorem bindL_zip {fz : FM} {kindOf : Str → Option NameKind} {x : Str} {d : AV} (hk : kindOf x = some .local) : ∀ (ns : List Str) {ds : List AV} {vs : List Value} (m : Str → Option Value), ns.Nodup → VL fz ds vs →
    (ns.zip ds).lookup x = some d → ∃ v, bindL kindOf (ns.zip vs) m x = some v ∧ V fz d v
  | [], _, _, _, _, _, h => by simp at h
  | _ :: _, [], _, _, _, _, h => by simp at h
  | n :: ns, d' :: ds, vs, m, hn, hv, h => by
    simp only [VL] at hv
    obtain ⟨v, r, rfl, v1, v2⟩ := hv
    rw [List.zip_cons_cons, List.lookup_cons] at h
    rw [List.zip_cons_cons]
    unfold bindL
    obtain ⟨hn1, hn2⟩ := List.nodup_cons.mp hn
    cases hb : x == n with
    | true =>
      rw [hb] at h; cases h
      have := eq_of_beq hb; subst this
      rw [bindL_other _ _ _ (zip_notin ns r hn1), if_pos hk]
      exact ⟨v, if_pos rfl, v1⟩
    | false =>
      rw [hb] at h
      exact bindL_zip hk ns _ hn2 v2 h
theorem bindC_zip {fz : FM} {kindOf : Str → Option NameKind} {x : Str} {d : AV} (hk : kindOf x = some .cell) : ∀ (ns : List Str) {ds : List AV} {vs : List Value} (m : Str → Option Value), ns.Nodup → VL fz ds vs →
    (ns.zip ds).lookup x = some d → ∃ v, bindC kindOf (ns.zip vs) m x = some v ∧ V fz d v
  | [], _, _, _, _, _, h => by simp at h
  | _ :: _, [], _, _, _, _, h => by simp at h
  | n :: ns, d' :: ds, vs, m, hn, hv, h => by
    simp only [VL] at hv
    obtain ⟨v, r, rfl, v1, v2⟩ := hv
    rw [List.zip_cons_cons, List.lookup_cons] at h
    rw [List.zip_cons_cons]
    unfold bindC
    obtain ⟨hn1, hn2⟩ := List.nodup_cons.mp hn
    cases hb : x == n with
    | true =>
      rw [hb] at h; cases h
      have := eq_of_beq hb; subst this
      rw [bindC_other _ _ _ (zip_notin ns r hn1), if_neg (by rw [hk]; decide)]
      exact ⟨v, if_pos rfl, v1⟩
    | false =>
      rw [hb] at h
      exact bindC_zip hk ns _ hn2 v2 h

theorem mem_zip_fst {α β : Type} : ∀ (ns : List α) (vs : List β) (p : α × β), p ∈ ns.zip vs → p.1 ∈ ns
  | [], _, _, h => by simp at h
  | _ :: _, [], _, h => by simp at h
  | n :: ns, v :: vs, p, h => by
    rw [List.zip_cons_cons] at h
    rcases List.mem_cons.mp h with rfl | h
    · exact .head _
    · exact .tail _ (mem_zip_fst ns vs p h)

theorem lookup_cell_from {x : Str} {n : Nat} {names : List (Str × NameKind)} (h : names.lookup x = some .cell) : ((cellsFrom n names []).lookup x).isSome = true := cellsFrom_some names n [] (.inl h)

section
variable {G : GC} {n : Nat} {sc : Scope}

theorem Good.deeper {A : Around} {env : Env} (g : Good (n + 1) A) : Good n (A.deeper env) :=
  ⟨g.handled, by have := g.depth; show A.depth + 1 + 10 * n < 990; lia, by have := g.units; show A.units + 3 + 10 * n < 9800; lia⟩

/-- a def's contract by its body -/
theorem SC.of_body {f : Str} {names : List Str} {dds ds : List AV} {body : List Stmt} {H : HM} {Q : AV → HM → Prop} (F : Fn G f names dds ds.length sc body)
    (h : SS G n sc body (argsOf names (ds ++ dds)) H fun af σ' H' => match af with | .ret d => Q d H' | _ => Q .none H')
    (hnd : names.Nodup := by decide) (hkind : (names.all fun x => ownKind (sc.names.lookup x)) = true := by decide) (hk : sc.kind = .function := by rfl) (hco : sc.isCoroutine = false := by rfl) (hgen : sc.isGenerator = false := by rfl) :
    SC G (n + 1) f ds H Q := by
  obtain ⟨fa, o, fd, dvals, h1, h2, h3, h4, h5, h6, h7, h8, h9, h10, h11⟩ := F.ex
  refine ⟨fa, o, fd, h1, h2, h3, fun A kp fz s vs g ok R hv => ?_⟩
  subst h5
  have hold : ∀ b o, G.h₀.get? b = some o → s.heap.get? b = some o := fun b o e => R.kept _ _ (R.base _ _ e)
  have hd := g.depth
  refine wpAny_call (codeAny_mono (R := fun r s' => Ex1 fun v => A2 (r = .ok (.ret v)) (Ex3 fun fz' d H' => A4 (Grow kp fz fz') (RelH G kp fz' H' s') (V fz' d v) (Q d H'))) ?_ fun r s' hr => by obtain ⟨v, rfl, hr⟩ := hr; exact hr)
  refine codeAny_call_function (by show A.depth < 1000; lia) (hold _ _ h2) h3 hco hgen h4 (h9.keeps hold) (h11 s vs hold hv.length _ _ _ _ ?_)
  rw [h6, h7, h8]
  have hkk : ∀ m, ∀ x ∈ names.zip (vs ++ dvals), fd.scope.names.lookup x.1 = some .local ∨ (fd.scope.names.lookup x.1 = some .cell ∧ ((cellsFrom m fd.scope.names []).lookup x.1).isSome = true) := fun m x hx => by
    have := List.all_eq_true.mp hkind _ (mem_zip_fst _ _ _ hx)
    cases hq : fd.scope.names.lookup x.1 with
    | none => rw [hq] at this; cases this
    | some kd =>
      rw [hq] at this
      cases kd with
      | «local» => exact .inl rfl
      | cell => exact .inr ⟨rfl, lookup_cell_from hq⟩
      | _ => cases this
  refine wpAny_newFunctionEnv_cells hk (hkk _) fun env he s' x => ?_
  refine ⟨(ok.nolimit.keeps hold).keeps x.toInCall.keep, codeAny_func ?_⟩
  have hes : env.scope = fd.scope := by rw [he]; rfl
  have hec : env.cells = cellsFrom (s.heap.objs.size + 1) fd.scope.names [] := by rw [he]; rfl
  have heL : env.locals = s.heap.objs.size := by rw [he]; rfl
  have eok : EnvOk G fd.scope env := ⟨ok, hes, hk, by rw [he]; rfl, by rw [he]; rfl⟩
  have hVL : VL fz (ds ++ dds) (vs ++ dvals) := hv.append (h10 fz)
  have hKo : ∀ y, env.kindOf y = fd.scope.names.lookup y := fun y => by unfold Env.kindOf; rw [hes]
  obtain ⟨h₁, tk, rfl, hkeep⟩ := x.done
  have above : ∀ c, s.heap.objs.size ≤ c → kp c = none ∧ fz c = none ∧ H c = none := fun c hc => R.fresh (Heap.get?_none_of_le hc)
  have RR : Rel G kp fz env (argsOf names (ds ++ dds)) H { s with heap := h₁, toks := tk } := by
    refine ⟨R.keeps hkeep, ⟨⟨_, x.toInCall.ns, fun y d hy hk' => bindL_zip hk' names _ hnd hVL hy⟩, fun y d hy hk' => ?_, fun y hy => ?_, fun y z c hy hz => ?_, above _ (by rw [heL]; exact Nat.le_refl _)⟩⟩
    · rcases hk' with hk' | hk'
      · obtain ⟨val, e1, e2⟩ := bindC_zip hk' names (fun _ => none) hnd hVL hy
        obtain ⟨c, hc⟩ := Option.isSome_iff_exists.mp (lookup_cell_from (n := s.heap.objs.size + 1) (hKo y ▸ hk'))
        rw [← hec] at hc
        exact ⟨c, val, hc, e1 ▸ x.cell y c hc, e2⟩
      · have hmem : y ∈ names := by
          obtain ⟨p, hp, hq⟩ : ∃ p ∈ names.zip (ds ++ dds), p.1 = y := ⟨_, mem_of_lookup hy, rfl⟩
          exact hq ▸ mem_zip_fst _ _ _ hp
        have := List.all_eq_true.mp hkind _ hmem
        rw [← hKo, hk'] at this; cases this
    · obtain ⟨c, hc⟩ := Option.isSome_iff_exists.mp (lookup_cell_from (n := s.heap.objs.size + 1) (hKo y ▸ hy))
      rw [← hec] at hc
      have hgt : env.locals < c := x.above y c (mem_of_lookup hc)
      have hgt' : s.heap.objs.size ≤ c := by rw [heL] at hgt; exact Nat.le_of_lt hgt
      obtain ⟨k1, k2, _⟩ := above c hgt'
      exact ⟨c, _, hc, x.cell y c hc, k1, k2⟩
    · exact name_of_addr x.apart (mem_of_lookup hy) (mem_of_lookup hz)
  refine wpAny_mono (h.run g.deeper eok RR (P := fun fl s' => Ex1 fun v => A2 ((Except.ok (Flow.ret (match fl with | .ret v => v | _ => .none)) : Result) = .ok (.ret v)) (Ex3 fun fz' d H' => A4 (Grow kp fz fz') (RelH G kp fz' H' s') (V fz' d v) (Q d H'))) fun fl s2 fz2 af σ2 H2 g2 R2 hfv q => ?_) (fun _ _ q => q) fun _ _ x => x.elim
  cases af with
  | ret d => obtain ⟨v, rfl, hfv⟩ := hfv; exact ⟨v, rfl, fz2, d, H2, g2, R2.h, hfv, q⟩
  | next => simp only [FV] at hfv; subst hfv; exact ⟨_, rfl, fz2, .none, H2, g2, R2.h, by simp only [V], q⟩
  | brk => simp only [FV] at hfv; subst hfv; exact ⟨_, rfl, fz2, .none, H2, g2, R2.h, by simp only [V], q⟩
  | cont => simp only [FV] at hfv; subst hfv; exact ⟨_, rfl, fz2, .none, H2, g2, R2.h, by simp only [V], q⟩

noncomputable def merge (H Hp H2 : HM) : HM := fun a => match H2 a with
  | some m => some m
  | none => if (Hp a).isSome then none else H a

variable {σ : SM} {H : HM}
noncomputable def downK (s : Shared) (Hp : HM) : FM := fun a => if (Hp a).isSome then none else s.heap.get? a
theorem downK_none {s : Shared} {Hp : HM} {a : Addr} (h : Hp a = none) : downK s Hp a = s.heap.get? a := by unfold downK; rw [h]; rfl
theorem downK_some {s : Shared} {Hp : HM} {a : Addr} {m : MO} (h : Hp a = some m) : downK s Hp a = none := by unfold downK; rw [h]; rfl
theorem none_or {α β : Type} (f : α → Option β) (a : α) : f a = none ∨ ∃ m, f a = some m := by cases f a <;> simp

/-- what the caller hands down: the made things Hp, the rest is held -/
theorem Rel.handDown {kp fz : FM} {env : Env} {s : Shared} {Hp : HM} (R : Rel G kp fz env σ H s) (hs : Sub Hp H) : RelH G (downK s Hp) fz Hp s := by
  refine ⟨R.h.same, fun a o e => ?_, fun a o e => ?_, R.h.froz, fun r o e => ?_⟩
  · rcases none_or Hp a with q | ⟨m, q⟩
    · rw [downK_none q] at e; exact e
    · rw [downK_some q] at e; cases e
  · rcases none_or Hp a with q | ⟨m, q⟩
    · rw [downK_none q]; exact R.h.kept _ _ (R.h.base _ _ e)
    · exact absurd rfl (R.h.ne_base (hs _ _ q) e)
  · obtain ⟨ob, h1, h2, h3, h4⟩ := R.h.heap r o (hs _ _ e)
    exact ⟨ob, h1, h2, downK_some e, h4⟩
theorem Rel.takeBack {kp fz fz' : FM} {env : Env} {s s' : Shared} {Hp H2 : HM} (R : Rel G kp fz env σ H s) (hs : Sub Hp H) (R2 : RelH G (downK s Hp) fz' H2 s')
    (g : Grow (downK s Hp) fz fz') : Grow kp fz fz' ∧ Rel G kp fz' env σ (merge H Hp H2) s' := by
  have kept : ∀ a o, Hp a = none → s.heap.get? a = some o → s'.heap.get? a = some o := fun a o h e => R2.kept a o (by rw [downK_none h]; exact e)
  have hpn : ∀ a, (kp a ≠ none ∨ fz a ≠ none ∨ a = env.locals) → Hp a = none := fun a h => by
    cases q : Hp a with
    | none => rfl
    | some m =>
      obtain ⟨ob, _, _, h3, h4⟩ := R.h.heap _ _ (hs _ _ q)
      rcases h with h | h | h
      · exact absurd h3 h
      · exact absurd h4 h
      · have := R.e.nL.2.2; rw [← h, hs _ _ q] at this; cases this
  have hcn : ∀ {c v}, s.heap.IsCell c v → Hp c = none := fun {c v} hc => by
    cases q : Hp c with
    | none => rfl
    | some m => exact absurd rfl (Rel.ne_cell R.h (hs _ _ q) hc)
  have fzn : ∀ a o, Hp a = none → s.heap.get? a = some o → fz a = none → fz' a = none := fun a o h e hf => by
    cases q : fz' a with
    | none => rfl
    | some o' =>
      rcases g.2 a (by rw [q]; exact fun h => nomatch h) with h' | h'
      · exact absurd hf h'
      · rw [downK_none h, e] at h'; cases h'
  have cell : ∀ {c v}, s.heap.IsCell c v → s'.heap.IsCell c v := fun {c v} hc => by
    obtain ⟨o, q1, q2⟩ := id hc
    exact ⟨o, kept _ _ (hcn hc) q1, q2⟩
  have kpn : ∀ a, downK s Hp a = none → kp a = none := fun a h => by
    cases q : kp a with
    | none => rfl
    | some o =>
      rw [downK_none (hpn a (.inl (by rw [q]; exact fun h => nomatch h))), R.h.kept _ _ q] at h; cases h
  obtain ⟨m, ⟨oL, es, ep, l1, l2⟩, l3⟩ := R.e.loc
  have hL := hpn env.locals (.inr (.inr rfl))
  refine ⟨⟨g.1, fun a e => (g.2 a e).imp id (kpn a)⟩, ⟨R2.same, fun a o e => kept _ _ (hpn a (.inl (by rw [e]; exact fun h => nomatch h))) (R.h.kept a o e), R.h.base, R2.froz, fun r o e => ?_⟩,
    ⟨⟨m, ⟨oL, es, ep, kept _ _ hL l1, l2⟩, fun x v e hx => let ⟨val, q1, q2⟩ := l3 x v e hx; ⟨val, q1, q2.mono g.1⟩⟩, fun x v e hx => let ⟨c, val, q1, q2, q3⟩ := R.e.cel x v e hx; ⟨c, val, q1, cell q2, q3.mono g.1⟩,
      fun x hx => ?_, R.e.apart, R.e.nL.1, fzn _ _ hL l1 R.e.nL.2.1, ?_⟩⟩
  · unfold merge at e
    cases q : H2 r with
    | some m' =>
      rw [q] at e; cases e
      obtain ⟨ob, h1, h2, h3, h4⟩ := R2.heap r _ q
      exact ⟨ob, h1, h2, kpn r h3, h4⟩
    | none =>
      rw [q] at e
      dsimp only at e
      cases q' : Hp r with
      | some _ => rw [q'] at e; cases e
      | none =>
        rw [q'] at e
        simp at e
        obtain ⟨ob, h1, h2, h3, h4⟩ := R.h.heap r o e
        exact ⟨ob, kept _ _ q' h1, h2.mono g.1, h3, fzn _ _ q' h1 h4⟩
  · obtain ⟨c, v, q1, q2, q3, q4⟩ := R.e.own x hx
    obtain ⟨o, w1, w2⟩ := id q2
    exact ⟨c, v, q1, cell q2, q3, fzn _ _ (hcn q2) w1 q4⟩
  · unfold merge
    cases q : H2 env.locals with
    | some m' =>
      obtain ⟨_, _, _, h3, _⟩ := R2.heap _ _ q
      rw [downK_none hL, l1] at h3; cases h3
    | none => dsimp only; rw [hL]; simp; exact R.e.nL.2.2

theorem name_global {A : Around} {kp fz : FM} {env : Env} {s : Shared} {f : Str} {p : Pos} {v : Value} (ok : EnvOk G sc env) (R : Rel G kp fz env σ H s) (hx : sc.names.lookup f = some .globalImplicit)
    (hv : G.mg f = some v) {P : Value → Shared → Prop} (k : P v s) (hd : (f == ("__debug__" : Str)) = false) : wpAny (model G.prog G.w) A (eval (.Name f p) env) P NoE s := by
  have hkind : env.scope.kind = .function := ok.scope ▸ ok.kind
  have hko : env.kindOf f = some .globalImplicit := by unfold Env.kindOf; rw [ok.scope]; exact hx
  have hold : ∀ b o, G.h₀.get? b = some o → s.heap.get? b = some o := fun b o e => R.h.kept _ _ (R.h.base _ _ e)
  refine Name_function_global hkind hko (loadGlobal_global (mg := G.mg) ?_ hv k) hd
  rw [ok.globals]; exact ok.ok.g.keeps hold

noncomputable def IsFn (G : GC) (f : Str) : Prop := ∃ fa o fd, G.mg f = some (.ref fa) ∧ G.h₀.get? fa = some o ∧ o.data = .func fd
theorem Fn.isFn {f : Str} {names : List Str} {dds : List AV} {k : Nat} {sc : Scope} {body : List Stmt} (F : Fn G f names dds k sc body) : IsFn G f :=
  let ⟨fa, o, fd, _, h1, h2, h3, _⟩ := F.ex; ⟨fa, o, fd, h1, h2, h3⟩

theorem SE.call {f : Str} {args : List Expr} {pos p : Pos} {Q : AV → HM → Prop} (hfn : IsFn G f)
    (h : SEs G n sc args [] σ H fun ds H1 => Ex1 fun Hp => A2 (Sub Hp H1) (SC G n f ds Hp fun d H2 => Q d (merge H1 Hp H2))) (hx : sc.names.lookup f = some .globalImplicit := by rfl) (hd : (f == ("__debug__" : Str)) = false := by rfl) :
    SE G n sc (.Call (.Name f p) args [] pos) σ H Q := by
  intro A kp fz env s g ok R
  obtain ⟨fa, o, fd, h1, h2, h3⟩ := hfn
  refine wpAny_Call_Name_kw (name_global ok R hx h1 ?_ hd)
  refine Calls.callWith_function (o := o) (fd := fd) (h.args g ok R fun vs s1 fz1 ds H1 g1 R1 v1 h1' => ?_)
  obtain ⟨Hp, hs, fa', o', fd', e1, _, _, hc⟩ := h1'
  rw [h1] at e1; cases e1
  refine ⟨⟨R1.h.kept _ _ (R1.h.base _ _ h2), h3⟩, ?_⟩
  refine wpAny_mono (hc A _ fz1 s1 vs g ok.ok (R1.handDown hs) v1) (fun v s2 h4 => ?_) fun _ _ x => x
  obtain ⟨fz2, d, H2, g2, R2, v2, q⟩ := h4
  obtain ⟨g3, R3⟩ := R1.takeBack hs R2 g2
  exact ⟨fz2, d, _, g1.trans g3, R3, v2, q⟩

theorem merge_none (H H2 : HM) (h : ∀ a m, H a = some m → H2 a = none) : Sub H (merge H noH H2) := fun a m e => by
  unfold merge; rw [h a m e]; simpa [noH] using e
/-- a def that touches nothing of the caller's -/
theorem SE.callP {f : Str} {args : List Expr} {pos p : Pos} {Q : AV → HM → Prop} (hfn : IsFn G f)
    (h : SEs G n sc args [] σ H fun ds H1 => SC G n f ds noH fun d _ => Q d H1) (hx : sc.names.lookup f = some .globalImplicit := by rfl) (hd : (f == ("__debug__" : Str)) = false := by rfl) :
    SE G n sc (.Call (.Name f p) args [] pos) σ H Q := by
  intro A kp fz env s g ok R
  obtain ⟨fa, o, fd, h1, h2, h3⟩ := hfn
  refine wpAny_Call_Name_kw (name_global ok R hx h1 ?_ hd)
  refine Calls.callWith_function (o := o) (fd := fd) (h.args g ok R fun vs s1 fz1 ds H1 g1 R1 v1 h1' => ?_)
  obtain ⟨fa', o', fd', e1, _, _, hc⟩ := h1'
  rw [h1] at e1; cases e1
  refine ⟨⟨R1.h.kept _ _ (R1.h.base _ _ h2), h3⟩, ?_⟩
  have hs : Sub noH H1 := fun _ _ e => by cases e
  refine wpAny_mono (hc A _ fz1 s1 vs g ok.ok (R1.handDown hs) v1) (fun v s2 h4 => ?_) fun _ _ x => x
  obtain ⟨fz2, d, H2, g2, R2, v2, q⟩ := h4
  obtain ⟨g3, R3⟩ := R1.takeBack hs R2 g2
  refine ⟨fz2, d, H1, g1.trans g3, R3.weak (Sub.refl _) (merge_none _ _ fun a m e => ?_), v2, q⟩
  cases q : H2 a with
  | none => rfl
  | some m' =>
    obtain ⟨_, _, _, h3, _⟩ := R2.heap _ _ q
    obtain ⟨ob, e1, _⟩ := R1.h.heap _ _ e
    rw [downK_none (s := s1) (Hp := noH) rfl, e1] at h3; cases h3
end


section
variable {G : GC} {n : Nat} {sc : Scope} {σ : SM} {H : HM}

theorem VL.two {fz : FM} {a b : AV} {vs : List Value} (h : VL fz [a, b] vs) : ∃ x y, vs = [x, y] ∧ V fz a x ∧ V fz b y := by
  simp only [VL] at h
  obtain ⟨x, r, rfl, h1, y, r', rfl, h2, rfl⟩ := h
  exact ⟨x, y, rfl, h1, h2⟩
theorem VL.single {fz : FM} {a : AV} {vs : List Value} (h : VL fz [a] vs) : ∃ x, vs = [x] ∧ V fz a x := by
  simp only [VL] at h
  obtain ⟨x, r, rfl, h1, rfl⟩ := h
  exact ⟨x, rfl, h1⟩
theorem VL.three {fz : FM} {a b c : AV} {vs : List Value} (h : VL fz [a, b, c] vs) : ∃ x y z, vs = [x, y, z] ∧ V fz a x ∧ V fz b y ∧ V fz c z := by
  simp only [VL] at h
  obtain ⟨x, r, rfl, h1, y, r', rfl, h2, z, r'', rfl, h3, rfl⟩ := h
  exact ⟨x, y, z, rfl, h1, h2, h3⟩

/-- a made list is changed in place -/
theorem Rel.updList {kp fz : FM} {env : Env} {s : Shared} {r : Addr} {xs ys : List AV} {vs ws : List Value} {k : Nat} {f : Array Value → Array Value} {tk : Nat} (R : Rel G kp fz env σ H s) (hr : H r = some (.list xs))
    (ho : s.heap.get? r = some { cls := .type "list", data := .seq (List.toArray vs) k }) (hf : f (List.toArray vs) = List.toArray ws) (hv : VL fz ys ws) :
    Rel G kp fz env σ (up H r (.list ys)) { s with heap := s.heap.update r (Obj.mapSeq f), toks := tk } := by
  have e : Obj.mapSeq f { cls := .type "list", data := .seq (List.toArray vs) k } = { cls := .type "list", data := .seq (List.toArray ws) (if (List.toArray ws).size == (List.toArray vs).size then k else k + 1) } := by
    rw [← hf]; rfl
  exact R.setH hr (fun b o hb e => (Heap.get?_update_other _ _ (Ne.symm hb)).trans e) (Heap.get?_update_self _ ho rfl) ⟨ws, _, e, hv⟩
theorem RelH.listAt {kp fz : FM} {s : Shared} {r : Addr} {xs : List AV} (R : RelH G kp fz H s) (hr : H r = some (.list xs)) : ∃ vs k, s.heap.get? r = some { cls := .type "list", data := .seq (List.toArray vs) k } ∧ VL fz xs vs := by
  obtain ⟨ob, h1, ⟨vs, k, rfl, h2⟩, _⟩ := R.heap _ _ hr
  exact ⟨vs, k, h1, h2⟩

theorem fits_small {i : Int} (h : -4611686018427387904 ≤ i) (h' : i < 4611686018427387904) : Builtin.List.listFitsIndex i = true := by
  unfold Builtin.List.listFitsIndex
  have e : (2 : Int) ^ 63 = 9223372036854775808 := by decide
  rw [e]
  exact Bool.and_eq_true_iff.mpr ⟨decide_eq_true (by lia), decide_eq_true (by lia)⟩
noncomputable def lineOk (k : Nat) : Prop := k ≤ 16777216
theorem lineOk.le {k : Nat} (h : lineOk k) : k ≤ sizeLine := by rw [sizeLine_eq]; exact h

theorem op_append {r : Addr} {xs : List AV} {d : AV} {Q : AV → HM → Prop} (hr : H r = some (.list xs)) (hz : lineOk xs.length) (q : Q .none (up H r (.list (xs ++ [d])))) :
    SVL G n (fun vs => call (.builtin "list.append") vs) [.ref r, d] H Q := by
  intro A kp fz env σ s vs g ok R hv
  obtain ⟨x, y, rfl, hx, hy⟩ := hv.two
  simp only [V] at hx; subst hx
  obtain ⟨ws, k, ho, hws⟩ := R.h.listAt hr
  refine call_meets PySem.F.slot_list_append ⟨_, ho, rfl⟩ PySem.F.entry_list_append (PySem.F.args_list_append_2 _ _) (AutoListH.list_append_list_val_0 r (List.toArray ws) k y (by rw [List.size_toArray, hws.length]; exact hz.le)) ⟨ho, ?_⟩
  exact PV.now (R.updList (ys := xs ++ [d]) (ws := ws ++ [y]) hr ho (by simp) (hws.append (.one hy))) (V.anyNone _) q

theorem op_reverse {r : Addr} {xs : List AV} {Q : AV → HM → Prop} (hr : H r = some (.list xs)) (hz : lineOk xs.length) (q : Q .none (up H r (.list xs.reverse))) :
    SVL G n (fun vs => call (.builtin "list.reverse") vs) [.ref r] H Q := by
  intro A kp fz env σ s vs g ok R hv
  obtain ⟨x, rfl, hx⟩ := hv.single
  simp only [V] at hx; subst hx
  obtain ⟨ws, k, ho, hws⟩ := R.h.listAt hr
  refine call_meets PySem.F.slot_list_reverse ⟨_, ho, rfl⟩ PySem.F.entry_list_reverse (PySem.F.args_list_reverse_1 _) (AutoSeq1.list_reverse_list_0 r (List.toArray ws) k (by rw [List.size_toArray, hws.length]; exact hz.le)) ⟨ho, ?_⟩
  exact PV.now (R.updList (ys := xs.reverse) (ws := ws.reverse) hr ho (by simp) hws.reverse) (V.anyNone _) q

theorem VL.eraseIdx {fz : FM} : ∀ (k : Nat) {ds : List AV} {vs : List Value}, VL fz ds vs → VL fz (ds.eraseIdx k) (vs.eraseIdx k)
  | _, [], _, h => by simp only [VL] at h; subst h; simp [VL]
  | 0, _ :: _, _, h => by simp only [VL] at h; obtain ⟨w, r, rfl, _, h⟩ := h; exact h
  | k + 1, _ :: _, _, h => by simp only [VL] at h; obtain ⟨w, r, rfl, hw, h⟩ := h; exact VL.cons hw (VL.eraseIdx k h)
theorem VL.insertIdx {fz : FM} {d : AV} {v : Value} (hd : V fz d v) : ∀ (k : Nat) {ds : List AV} {vs : List Value}, VL fz ds vs → VL fz (ds.take k ++ d :: ds.drop k) (vs.take k ++ v :: vs.drop k) :=
  fun k _ _ h => (VL.take k h).append (.cons hd (VL.drop k h))
theorem erase_arr (ws : List Value) (k : Nat) : (List.toArray ws).eraseIdxIfInBounds k = List.toArray (ws.eraseIdx k) := by
  simp

theorem op_popAt {r : Addr} {xs : List AV} {i : Nat} {d : AV} {Q : AV → HM → Prop} (hr : H r = some (.list xs)) (hz : lineOk xs.length) (hd : xs[i]? = some d) (q : Q d (up H r (.list (xs.eraseIdx i)))) :
    SVL G n (fun vs => call (.builtin "list.pop") vs) [.ref r, .int i] H Q := by
  intro A kp fz env σ s vs g ok R hv
  obtain ⟨x, y, rfl, hx, hy⟩ := hv.two
  simp only [V] at hx hy; subst hx
  obtain ⟨t, rfl⟩ := hy
  obtain ⟨ws, k, ho, hws⟩ := R.h.listAt hr
  obtain ⟨v, hv1, hv2⟩ := hws.get hd
  have hi : i < xs.length := (List.getElem?_eq_some_iff.mp hd).1
  have hz' := hz; unfold lineOk at hz'
  have hfit : Builtin.List.listFitsIndex (i : Int) = true := fits_small (by lia) (by lia)
  have hk : seqIndex? (i : Int) (List.toArray ws).size = some i := by
    rw [List.size_toArray, hws.length]; unfold seqIndex?; simp; lia
  have hy : (List.toArray ws)[i]? = some v := by rw [List.getElem?_toArray]; exact hv1
  have hs1 : (List.toArray ws).size ≤ sizeLine := by rw [List.size_toArray, hws.length]; exact hz.le
  obtain ⟨j, hj⟩ : ∃ j : Int, j = (i : Int) := ⟨_, rfl⟩
  rw [← hj] at hfit hk ⊢
  have gg := MeetsSeq.list_pop_at r (List.toArray ws) k j t i v hfit hk hy hs1
  refine call_meets PySem.F.slot_list_pop ⟨_, ho, rfl⟩ PySem.F.entry_list_pop (PySem.F.args_list_pop_2 _ _) gg ⟨ho, ?_⟩
  exact PV.now (R.updList (ys := xs.eraseIdx i) (ws := ws.eraseIdx i) hr ho (erase_arr ws i) (hws.eraseIdx i)) hv2 q

theorem op_pop {r : Addr} {xs : List AV} {d : AV} {Q : AV → HM → Prop} (hr : H r = some (.list (xs ++ [d]))) (hz : lineOk (xs.length + 1)) (q : Q d (up H r (.list xs))) :
    SVL G n (fun vs => call (.builtin "list.pop") vs) [.ref r] H Q := by
  intro A kp fz env σ s vs g ok R hv
  obtain ⟨x, rfl, hx⟩ := hv.single
  simp only [V] at hx; subst hx
  obtain ⟨ws, k, ho, hws⟩ := R.h.listAt hr
  obtain ⟨v, hv1, hv2⟩ := hws.get (i := xs.length) (d := d) (by simp)
  have hl : ws.length = xs.length + 1 := by simpa using hws.length
  have hs1 : (List.toArray ws).size ≤ sizeLine := by rw [List.size_toArray, hl]; exact hz.le
  have hy : (List.toArray ws)[(List.toArray ws).size - 1]? = some v := by rw [List.size_toArray, hl, List.getElem?_toArray]; exact hv1
  refine call_meets PySem.F.slot_list_pop ⟨_, ho, rfl⟩ PySem.F.entry_list_pop (PySem.F.args_list_pop_1 _) (MeetsSeq.list_pop_last r (List.toArray ws) k v hy hs1) ⟨ho, ?_⟩
  refine PV.now (R.updList (ys := xs) (ws := ws.eraseIdx xs.length) hr ho ?_ ?_) hv2 q
  · rw [erase_arr, List.size_toArray, hl]; rfl
  · have := hws.eraseIdx xs.length
    have e : (xs ++ [d]).eraseIdx xs.length = xs := by rw [List.eraseIdx_append_of_length_le (Nat.le_refl _)]; simp
    rw [e] at this; exact this

/-- where insert puts it: i within the list -/
theorem op_insert {r : Addr} {xs : List AV} {i : Nat} {d : AV} {Q : AV → HM → Prop} (hr : H r = some (.list xs)) (hz : lineOk xs.length) (hi : i ≤ xs.length) (q : Q .none (up H r (.list (xs.take i ++ d :: xs.drop i)))) :
    SVL G n (fun vs => call (.builtin "list.insert") vs) [.ref r, .int i, d] H Q := by
  intro A kp fz env σ s vs g ok R hv
  obtain ⟨x, y, z, rfl, hx, hy, hd⟩ := hv.three
  simp only [V] at hx hy; subst hx
  obtain ⟨t, rfl⟩ := hy
  obtain ⟨ws, k, ho, hws⟩ := R.h.listAt hr
  have hz' := hz; unfold lineOk at hz'
  have hfit : Builtin.List.listFitsIndex (i : Int) = true := fits_small (by lia) (by lia)
  have hs1 : (List.toArray ws).size ≤ sizeLine := by rw [List.size_toArray, hws.length]; exact hz.le
  obtain ⟨j, hj⟩ : ∃ j : Int, j = (i : Int) := ⟨_, rfl⟩
  rw [← hj] at hfit ⊢
  have gg := AutoSeq1.list_insert_list_int_val_1 r (List.toArray ws) k j t z (by simp [hfit]) hs1
  refine call_meets PySem.F.slot_list_insert ⟨_, ho, rfl⟩ PySem.F.entry_list_insert (PySem.F.args_list_insert_3 _ _ _) gg ⟨ho, ?_⟩
  refine PV.now (R.updList (ys := xs.take i ++ d :: xs.drop i) (ws := ws.take i ++ z :: ws.drop i) hr ho ?_ (hws.insertIdx hd i)) (V.anyNone _) q
  subst hj
  have hl := hws.length
  have e : (if (i : Int) < 0 then ((i : Int) + (List.toArray ws).size).toNat else min (i : Int).toNat (List.toArray ws).size) = i := by
    rw [if_neg (by lia), List.size_toArray, hl]; simp; lia
  show ((List.toArray ws).extract 0 (if (i : Int) < 0 then ((i : Int) + (List.toArray ws).size).toNat else min (i : Int).toNat (List.toArray ws).size)).push z ++ (List.toArray ws).extract (if (i : Int) < 0 then ((i : Int) + (List.toArray ws).size).toNat else min (i : Int).toNat (List.toArray ws).size) = _
  rw [e]
  apply Array.toList_inj.mp
  simp
  exact List.take_of_length_le (by simp)

theorem eqGives_of {x : Value} {i : Int} {t : Tok} : ∀ y, (∃ j u, y = .int j u) → MeetsSeq.EqGives y (.int i t) (match y with | .int j _ => j == i | _ => false) := by
  rintro y ⟨j, u, rfl⟩
  exact MeetsSeq.EqGives.int j i u t

theorem op_index {r : Addr} {ns : List Int} {i : Int} {j : Nat} {Q : AV → HM → Prop} (hr : H r = some (.list (intsOf ns))) (hz : lineOk ns.length) (hj : ns[j]? = some i) (hno : ∀ m, m < j → ns[m]? ≠ some i) (q : Q (.int j) H) :
    SVL G n (fun vs => call (.builtin "list.index") vs) [.ref r, .int i] H Q := by
  intro A kp fz env σ s vs g ok R hv
  obtain ⟨x, y, rfl, hx, hy⟩ := hv.two
  simp only [V] at hx hy; subst hx
  obtain ⟨t, rfl⟩ := hy
  obtain ⟨ws, k, ho, hws⟩ := R.h.listAt hr
  obtain ⟨xs, rfl, rfl⟩ := hws.ints
  have hz' := hz; unfold lineOk at hz'
  have hjl : j < xs.length := by
    have := (List.getElem?_eq_some_iff.mp hj).1
    simpa using this
  have hat : ∀ m (hm : m < (List.toArray (xs.map fun p => Value.int p.1 p.2)).size), (List.toArray (xs.map fun p => Value.int p.1 p.2))[m] = .int (xs[m]'(by simpa using hm)).1 (xs[m]'(by simpa using hm)).2 := fun m hm => by simp
  have gg := MeetsSeq.list_index r (List.toArray (xs.map fun p => Value.int p.1 p.2)) k (.int i t) (fun y => match y with | .int j _ => j == i | _ => false)
    (fun y hy => eqGives_of (x := .none) y (by
      obtain ⟨p, _, rfl⟩ : ∃ p ∈ xs, Value.int p.1 p.2 = y := by simpa using hy
      exact ⟨_, _, rfl⟩)) j (by simpa using hjl) (by
        have : xs.length ≤ 16777216 := by simpa using hz'
        have e : (2 : Int) ^ 63 = 9223372036854775808 := by decide
        rw [e]; lia) (by
        rw [hat]
        have : xs[j].1 = i := by
          have h2 := hj
          rw [List.getElem?_map, List.getElem?_eq_getElem hjl] at h2
          simpa using h2
        simp [this]) (fun m hm hlt => by
        rw [hat]
        have hm' : m < xs.length := by simpa using hm
        have h2 := hno m hlt
        rw [List.getElem?_map, List.getElem?_eq_getElem hm'] at h2
        simpa using h2)
  refine call_meets PySem.F.slot_list_index ⟨_, ho, rfl⟩ PySem.F.entry_list_index (PySem.F.args_list_index_2 _ _) gg ⟨ho, ?_⟩
  exact PV.now (R.tok (tk := s.toks + 1)) (V.anyInt _ _ _) q

/-! reads -/
theorem op_len {d : AV} {ds : List AV} {Q : AV → HM → Prop} (hd : LstOf H d ds) (hz : lineOk ds.length) (q : Q (.int ds.length) H) : SVL G n (fun vs => call (.builtin "len") vs) [d] H Q := by
  intro A kp fz env σ s vs g ok R hv
  obtain ⟨x, rfl, hx⟩ := hv.single
  obtain ⟨a, ws, rfl, hl, hws, _⟩ := hd.at R.h hx
  have hz' := hz; unfold lineOk at hz'
  have e : (2 : Int) ^ 63 = 9223372036854775808 := by decide
  refine Calls.call_len_list hl (by rw [List.size_toArray, hws.length, e]; lia) ?_
  rw [List.size_toArray, hws.length]
  exact PV.now (R.tok (tk := s.toks + 1 + 1)) (V.anyInt _ _ _) q

theorem op_item {d e : AV} {ds : List AV} {i : Nat} {Q : AV → HM → Prop} (hd : LstOf H d ds) (hz : lineOk i) (he : ds[i]? = some e) (q : Q e H) : SV2 G n getItem d (.int i) H Q := by
  intro A kp fz env σ s va vb g ok R ha hb
  simp only [V] at hb
  obtain ⟨t, rfl⟩ := hb
  obtain ⟨a, ws, rfl, hl, hws, _⟩ := hd.at R.h ha
  obtain ⟨v, hv1, hv2⟩ := hws.get he
  have hz' := hz; unfold lineOk at hz'
  have e : (2 : Int) ^ 63 = 9223372036854775808 := by decide
  exact wpAny_getItem_list hl (by lia) (by rw [e]; lia) (by rw [List.getElem?_toArray]; simpa using hv1) (PV.now R hv2 q)
theorem op_itemNeg1 {d e : AV} {ds : List AV} {Q : AV → HM → Prop} (hd : LstOf H d (ds ++ [e])) (q : Q e H) : SV2 G n getItem d (.int (-1)) H Q := by
  intro A kp fz env σ s va vb g ok R ha hb
  simp only [V] at hb
  obtain ⟨t, rfl⟩ := hb
  obtain ⟨a, ws, rfl, hl, hws, _⟩ := hd.at R.h ha
  obtain ⟨v, hv1, hv2⟩ := hws.get (i := ds.length) (d := e) (by simp)
  have hlen : ws.length = ds.length + 1 := by simpa using hws.length
  refine wpAny_getItem_list_neg hl (by decide) (by rw [List.size_toArray, hlen]; lia) (by decide) ?_ (PV.now R hv2 q)
  rw [List.getElem?_toArray, List.size_toArray, hlen]
  have : (-1 + ((ds.length + 1 : Nat) : Int)).toNat = ds.length := by lia
  rw [this]; exact hv1
theorem op_tupItem {e : AV} {ds : List AV} {i : Nat} {Q : AV → HM → Prop} (hz : lineOk ds.length) (he : ds[i]? = some e) (q : Q e H) : SV2 G n getItem (.tup ds) (.int i) H Q := by
  intro A kp fz env σ s va vb g ok R ha hb
  simp only [V] at hb
  obtain ⟨t, rfl⟩ := hb
  obtain ⟨a, ws, rfl, hl, hws, _⟩ := V.tupAt R.h ha
  obtain ⟨v, hv1, hv2⟩ := hws.get he
  have hi : i < ds.length := (List.getElem?_eq_some_iff.mp he).1
  have hz' := hz; unfold lineOk at hz'
  have e2 : (2 : Int) ^ 63 = 9223372036854775808 := by decide
  have hk : seqIndex? (i : Int) (List.toArray ws).size = some i := by
    rw [List.size_toArray, hws.length]; unfold seqIndex?; simp; lia
  exact getItem_tuple hl (by rw [e2]; lia) (by rw [e2]; lia) hk (by rw [List.getElem?_toArray]; exact hv1) (PV.now R hv2 q)

/-! identity with None -/
theorem op_isNone {d : AV} {b : Bool} {Q : AV → HM → Prop} (hd : (d = .none ∧ b = true) ∨ ((∃ i, d = .int i) ∧ b = false)) (q : Q (.bool b) H) : SV2 G n (compareOp .Is) d .none H Q := by
  intro A kp fz env σ s va vb g ok R ha hb
  simp only [V] at hb; subst hb
  rcases hd with ⟨rfl, rfl⟩ | ⟨⟨i, rfl⟩, rfl⟩
  · simp only [V] at ha; subst ha
    exact wpAny_is_plain (by decide) (PV.now R (V.anyBool _ _) q)
  · simp only [V] at ha
    obtain ⟨t, rfl⟩ := ha
    exact wpAny_is_plain rfl (PV.now R (V.anyBool _ _) q)
end


theorem subNil {σ : SM} {vs : List AV} : Sub (argsOf [] vs) σ := fun a o e => by simp [argsOf] at e
theorem subCons {σ : SM} {n : Str} {v : AV} {ns : List Str} {vs : List AV} (h : σ n = some v) (k : Sub (argsOf ns vs) σ) : Sub (argsOf (n :: ns) (v :: vs)) σ := fun a o e => by
  unfold argsOf at e
  rw [List.zip_cons_cons, List.lookup_cons] at e
  cases hb : a == n with
  | true => rw [hb] at e; cases e; rw [eq_of_beq hb]; exact h
  | false => rw [hb] at e; exact k a o e

section
variable {G : GC} {n : Nat} {sc : Scope} {σ : SM} {H : HM}
/-- a while that keeps its map in a known form -/
theorem S1.whileA {α : Type} {test : Expr} {body : List Stmt} {pos : Pos} {Q : AF → SM → HM → Prop} (names : List Str) (vals : α → List AV) (I : Nat → α → HM → Prop)
    (turn : ∀ k a H, I k a H → ST G n sc test (argsOf names (vals a)) H fun b H1 => (b = true → SS G n sc body (argsOf names (vals a)) H1 fun f σ2 H2 => match f with
        | .next | .cont => ∃ m a', m < k ∧ Sub (argsOf names (vals a')) σ2 ∧ I m a' H2
        | .brk => Q .next σ2 H2
        | .ret v => Q (.ret v) σ2 H2) ∧ (b = false → Q .next (argsOf names (vals a)) H1)) (k : Nat) (a : α) (hs : Sub (argsOf names (vals a)) σ) (h0 : I k a H) : S1 G n sc (.While test body [] pos) σ H Q := by
  have main : S1 G n sc (.While test body [] pos) (argsOf names (vals a)) H Q := by
    refine S1.while (fun k σ H => Ex1 fun a => A2 (σ = argsOf names (vals a)) (I k a H)) ?_ k ⟨a, rfl, h0⟩
    rintro k _ H ⟨a, rfl, hI⟩
    intro A kp fz env s g ok R
    refine (turn k a H hI).run g ok R fun b s1 fz1 H1 g1 R1 h1 => ⟨fz1, H1, g1, R1, fun hb => ?_, h1.2⟩
    intro A kp fz env s g ok R
    refine ((h1.1 hb)).run g ok R fun f s2 fz2 af σ2 H2 g2 R2 hv q => ?_
    cases af with
    | next => obtain ⟨m, a', hm, hsub, q⟩ := q; exact ⟨fz2, .next, _, H2, g2, R2.weak hsub (Sub.refl _), hv, m, hm, a', rfl, q⟩
    | cont => obtain ⟨m, a', hm, hsub, q⟩ := q; exact ⟨fz2, .cont, _, H2, g2, R2.weak hsub (Sub.refl _), hv, m, hm, a', rfl, q⟩
    | brk => exact ⟨fz2, .brk, σ2, H2, g2, R2, hv, q⟩
    | ret v => exact ⟨fz2, .ret v, σ2, H2, g2, R2, hv, q⟩
  intro A kp fz env s g ok R
  exact main A kp fz env s g ok (R.weak hs (Sub.refl _))

/-- a for over items, the map in a known form between the turns -/
theorem ForW.inv {α : Type} {tgt : Expr} {body : List Stmt} {Q : AF → SM → HM → Prop} (names : List Str) (vals : α → List AV) (I : List AV → α → HM → Prop)
    (turn : ∀ d ds a H, I (d :: ds) a H → SA G n sc tgt d (argsOf names (vals a)) H fun σ1 H1 => SS G n sc body σ1 H1 fun f σ2 H2 => match f with
        | .next | .cont => ∃ a', Sub (argsOf names (vals a')) σ2 ∧ I ds a' H2
        | .brk => Q .next σ2 H2
        | .ret v => Q (.ret v) σ2 H2)
    (fin : ∀ a H, I [] a H → Q .next (argsOf names (vals a)) H) : ∀ (ds : List AV) (a : α) (H : HM), I ds a H → ForW G n sc tgt body Q ds (argsOf names (vals a)) H
  | [], a, H, h => fin a H h
  | d :: ds, a, H, h => by
    unfold ForW
    intro A kp fz env s v g ok R hv
    refine (turn d ds a H h).run g ok R hv fun s1 fz1 σ1 H1 g1 R1 h1 => ⟨fz1, σ1, H1, g1, R1, ?_⟩
    intro A kp fz env s g ok R
    refine h1.run g ok R fun f s2 fz2 af σ2 H2 g2 R2 hv q => ?_
    cases af with
    | next => obtain ⟨a', hsub, q⟩ := q; exact ⟨fz2, .next, _, H2, g2, R2.weak hsub (Sub.refl _), hv, ForW.inv names vals I turn fin ds a' H2 q⟩
    | cont => obtain ⟨a', hsub, q⟩ := q; exact ⟨fz2, .cont, _, H2, g2, R2.weak hsub (Sub.refl _), hv, ForW.inv names vals I turn fin ds a' H2 q⟩
    | brk => exact ⟨fz2, .brk, σ2, H2, g2, R2, hv, q⟩
    | ret v => exact ⟨fz2, .ret v, σ2, H2, g2, R2, hv, q⟩
/-- the weak form of the map ahead of a for -/
theorem S1.weak {st : Stmt} {σ' : SM} {H' : HM} {Q : AF → SM → HM → Prop} (hs : Sub σ' σ) (hh : Sub H' H) (h : S1 G n sc st σ' H' Q) : S1 G n sc st σ H Q :=
  fun A kp fz env s g ok R => h A kp fz env s g ok (R.weak hs hh)
end


section
variable {G : GC} {n : Nat} {sc : Scope} {σ : SM} {H : HM}
theorem SE.int0 {k : Nat} {pos : Pos} {Q : AV → HM → Prop} (q : Q (.int 0) H) : SE G n sc (.Constant (.int (Int.ofNat (nat_lit 0))) k pos) σ H Q := SE.int (i := 0) q
theorem SE.int1 {k : Nat} {pos : Pos} {Q : AV → HM → Prop} (q : Q (.int 1) H) : SE G n sc (.Constant (.int (Int.ofNat (nat_lit 1))) k pos) σ H Q := SE.int (i := 1) q
theorem SE.int2 {k : Nat} {pos : Pos} {Q : AV → HM → Prop} (q : Q (.int 2) H) : SE G n sc (.Constant (.int (Int.ofNat (nat_lit 2))) k pos) σ H Q := SE.int (i := 2) q
theorem SE.intN {m : Nat} {k : Nat} {pos : Pos} {Q : AV → HM → Prop} (q : Q (.int (m : Int)) H) : SE G n sc (.Constant (.int (Int.ofNat m)) k pos) σ H Q := SE.int (i := (m : Int)) q
theorem SE.cbytesE {b : List UInt8} {k : Nat} {pos : Pos} {Q : AV → HM → Prop} (q : Q (.bytes b.toArray) H) : SE G n sc (.Constant (.bytes b) k pos) σ H Q := SE.cbytes q

theorem SE.nm {x : Str} {pos : Pos} {v : AV} {Q : AV → HM → Prop} (hk : (varKind (sc.names.lookup x) && !(x == ("__debug__" : Str)) && !(x == ("__classdict__" : Str))) = true) (hv : σ x = some v) (q : Q v H) : SE G n sc (.Name x pos) σ H Q := by
  simp only [Bool.and_eq_true, Bool.not_eq_true'] at hk
  exact SE.name hv q hk.1.1 hk.1.2 hk.2
theorem SE.cm {l r : Expr} {op : CmpOp} {pos : Pos} {Q : AV → HM → Prop} (hm : behindInMarks op r = false) (h : SE G n sc l σ H fun a H1 => SE G n sc r σ H1 fun b H2 => SV2 G n (compareOp op) a b H2 Q) :
    SE G n sc (.Compare l [op] [r] pos) σ H Q := SE.cmp h hm
theorem ST.cm {l r : Expr} {op : CmpOp} {pos : Pos} {Q : Bool → HM → Prop} (hm : behindInMarks op r = false)
    (h : SE G n sc l σ H fun a H1 => SE G n sc r σ H1 fun b H2 => SV2 G n (compareOp op) a b H2 fun d H3 => Ex1 fun c => A2 (d = .bool c) (Q c H3)) : ST G n sc (.Compare l [op] [r] pos) σ H Q := ST.cmp h hm
theorem SE.tup {es : List Expr} {k : Nat} {pos : Pos} {Q : AV → HM → Prop} (hl : decide (es.length ≤ 100) = true) (h : SEs G n sc es [] σ H fun ds H1 => Q (.tup ds) H1) : SE G n sc (.Tuple es k pos) σ H Q := SE.tuple h (of_decide_eq_true hl)
end


/-! comprehensions with one for -/
noncomputable def relab (scope sc : Scope) : Scope :=
  { scope with names := scope.names.map fun (n, k) => if (k == .free && sc.kind == .function && sc.names.lookup n == some .cell) then (n, .cell) else (n, k) }
theorem relabel_eq (scope : Scope) (env : Env) : relabel scope env = relab scope env.scope := rfl
noncomputable def freeOf (scope : Scope) (σ : SM) : SM := fun x => match scope.names.lookup x with
  | some .free => σ x
  | _ => none
theorem freeOf_some {scope : Scope} {σ : SM} {x : Str} {v : AV} (h : freeOf scope σ x = some v) : scope.names.lookup x = some .free ∧ σ x = some v := by
  unfold freeOf at h
  split at h
  · rename_i h1; exact ⟨h1, h⟩
  · cases h
theorem lookup_relab (sc : Scope) (x : Str) : ∀ (names : List (Str × NameKind)), (names.map fun (n, k) => if (k == .free && sc.kind == .function && sc.names.lookup n == some .cell) then (n, .cell) else (n, k)).lookup x =
    (names.lookup x).map fun k => if (k == .free && sc.kind == .function && sc.names.lookup x == some .cell) then .cell else k
  | [] => rfl
  | (n, k) :: r => by
    rw [List.map_cons]
    have e : (if (k == .free && sc.kind == .function && sc.names.lookup n == some .cell) = true then (n, NameKind.cell) else (n, k)) = (n, if (k == .free && sc.kind == .function && sc.names.lookup n == some .cell) = true then .cell else k) := by split <;> rfl
    show List.lookup x ((if (k == .free && sc.kind == .function && sc.names.lookup n == some .cell) = true then (n, NameKind.cell) else (n, k)) :: _) = _
    rw [e, List.lookup_cons, List.lookup_cons]
    cases hb : x == n with
    | true => rw [eq_of_beq hb]; rfl
    | false => exact lookup_relab sc x r

/-- what a comprehension's names must be -/
noncomputable def compOk (scope sc : Scope) (tgt : List Str) : Bool :=
  (scope.kind == .function) && (sc.kind == .function) && (scope.names.all fun p => p.2 != .free || sc.names.lookup p.1 == some .cell) && decide (scope.names.map (·.1)).Nodup &&
    (scope.names.all fun p => p.2 != .local || scope.names.lookup p.1 == some .local) && (tgt.all fun x => ownKind (scope.names.lookup x))
noncomputable def freeOk (scope : Scope) (σ : SM) : Bool := scope.names.all fun p => p.2 != .free || (σ p.1).isSome

theorem mem_of_lookup' {x : Str} {k : NameKind} {names : List (Str × NameKind)} (h : names.lookup x = some k) : (x, k) ∈ names := mem_of_lookup h
theorem lookup_of_mem : ∀ {names : List (Str × NameKind)} {x : Str} {k : NameKind}, (names.map (·.1)).Nodup → (x, k) ∈ names → names.lookup x = some k
  | (n, k') :: r, x, k, hn, h => by
    rw [List.map_cons, List.nodup_cons] at hn
    rw [List.lookup_cons]
    rcases List.mem_cons.mp h with e | h2
    · cases e; simp
    · have : (x == n) = false := by
        rw [beq_eq_false_iff_ne]; rintro rfl
        exact hn.1 (List.mem_map.mpr ⟨(x, k), h2, rfl⟩)
      rw [this]; exact lookup_of_mem hn.2 h2

theorem cellsFrom_append : ∀ (names : List (Str × NameKind)) (n : Nat) (acc : List (Str × Addr)), cellsFrom n names acc = cellsFrom n names [] ++ acc
  | [], _, _ => rfl
  | (x, k) :: r, n, acc => by
    unfold cellsFrom
    split
    · rw [cellsFrom_append r (n + 1) ((x, n) :: acc), cellsFrom_append r (n + 1) [(x, n)], List.append_assoc]; rfl
    · exact cellsFrom_append r n acc
theorem cellsFrom_mem : ∀ (names : List (Str × NameKind)) (n : Nat) (x : Str) (c : Addr), (x, c) ∈ cellsFrom n names [] → (x, NameKind.cell) ∈ names
  | [], _, _, _, h => by cases h
  | (y, k) :: r, n, x, c, h => by
    unfold cellsFrom at h
    split at h
    · rename_i hk
      rw [cellsFrom_append] at h
      rcases List.mem_append.mp h with h | h
      · exact .tail _ (cellsFrom_mem r _ x c h)
      · rw [List.mem_singleton] at h; cases h
        rw [eq_of_beq hk]; exact .head _
    · exact .tail _ (cellsFrom_mem r n x c h)

theorem Sem_pure_bind {α β : Type} (a : α) (f : α → Sem β) : (pure a >>= f) = f a := rfl
theorem closureFor_ok {scope : Scope} {env : Env} (h : ∀ n, (n, NameKind.free) ∈ scope.names → ∃ c, env.cells.lookup n = some c) :
    ∃ cl, closureFor scope env = pure cl ∧ (∀ x c, (x, c) ∈ cl → env.cells.lookup x = some c ∧ (x, NameKind.free) ∈ scope.names) ∧ ∀ x, (x, NameKind.free) ∈ scope.names → ∃ c, (x, c) ∈ cl := by
  have main : ∀ (names : List (Str × NameKind)) (acc : List (Str × Addr)), (∀ p ∈ names, p ∈ scope.names) → (∀ x c, (x, c) ∈ acc → env.cells.lookup x = some c ∧ (x, NameKind.free) ∈ scope.names) →
      ∃ cl, (forIn names acc fun (p : Str × NameKind) cs => (do
          let (name, kind) := p
          let mut cs := cs
          if kind == .free then cs := (name, ← cellOf env name) :: cs
          pure (ForInStep.yield cs) : Sem _)) = (pure cl : Sem _) ∧ (∀ x c, (x, c) ∈ cl → env.cells.lookup x = some c ∧ (x, NameKind.free) ∈ scope.names) ∧ (∀ x c, (x, c) ∈ acc → (x, c) ∈ cl) ∧
        ∀ x, (x, NameKind.free) ∈ names → ∃ c, (x, c) ∈ cl := by
    intro names
    induction names with
    | nil => intro acc _ h2; exact ⟨acc, by rw [List.forIn_nil], h2, fun x c e => e, fun x e => nomatch e⟩
    | cons p r ih =>
      intro acc h1 h2
      obtain ⟨n, k⟩ := p
      rw [List.forIn_cons]
      by_cases hk : (k == NameKind.free) = true
      · have hk' := eq_of_beq hk; subst hk'
        obtain ⟨c, hc⟩ := h n (h1 _ (.head _))
        have e1 : cellOf env n = pure c := by unfold cellOf; rw [hc]
        obtain ⟨cl, q1, q2, q3, q4⟩ := ih ((n, c) :: acc) (fun p hp => h1 p (.tail _ hp)) fun x c' e => by
          rcases List.mem_cons.mp e with e | e
          · cases e; exact ⟨hc, h1 _ (.head _)⟩
          · exact h2 x c' e
        refine ⟨cl, ?_, q2, fun x c' e => q3 x c' (.tail _ e), fun x e => ?_⟩
        · rw [← q1]
          simp only [beq_self_eq_true, if_true, e1, Sem_pure_bind]
        · rcases List.mem_cons.mp e with e | e
          · cases e; exact ⟨c, q3 _ _ (.head _)⟩
          · exact q4 x e
      · obtain ⟨cl, q1, q2, q3, q4⟩ := ih acc (fun p hp => h1 p (.tail _ hp)) h2
        refine ⟨cl, ?_, q2, q3, fun x e => ?_⟩
        · rw [← q1]
          simp only [hk, Bool.false_eq_true, if_false, Sem_pure_bind]
        · rcases List.mem_cons.mp e with e | e
          · cases e; exact absurd rfl hk
          · exact q4 x e
  obtain ⟨cl, q1, q2, _, q4⟩ := main scope.names [] (fun _ h => h) (fun x c e => nomatch e)
  refine ⟨cl, ?_, q2, q4⟩
  unfold closureFor
  show (forIn scope.names [] _ >>= _) = _
  first
    | rw [q1]; rfl
    | (refine Eq.trans (congrArg (· >>= _) ?_) rfl; exact q1)

/-- the comprehension's own block -/
theorem wpAny_newEnvComp {M : Model} {A : Around} {E : Value → Shared → Prop} {s : Shared} {scope : Scope} {globals : Addr} {cl : List (Str × Addr)} {qual : Str} {outer : Env} {builtins : Addr} {Q : Env → Shared → Prop}
    (hQ : Q (newEnv scope s.heap.objs.size globals (cellsFrom (s.heap.objs.size + 1) scope.names cl) qual none .none (some outer) builtins) { s with heap := pushCells (s.heap.push { cls := .type "dict", data := .dict #[] }) scope.names }) :
    wpAny M A (newFunctionEnv scope globals cl [] qual none .none (some outer) builtins) Q E s := by
  simp only [newFunctionEnv, Option.isSome_some, if_true]
  refine wpAny_bind (wpAny_alloc ?_)
  refine wpAny_bind (wpAny_layCells _ (fun name kind cells => by cases hkc : kind == NameKind.cell <;> simp [hkc]) _ _ _ _ ?_)
  rw [show ({ s with heap := s.heap.push { cls := .type "dict", data := .dict #[] } } : Shared).heap.objs.size = s.heap.objs.size + 1 from Heap.size_push ..]
  rw [List.forIn_nil]
  exact wpAny_bind (wpAny_pure (wpAny_pure hQ))

section
variable {G : GC} {kp fz : FM} {env : Env} {σ : SM} {H : HM} {s : Shared}

/-- what the block may not touch -/
noncomputable def kc (s : Shared) (H : HM) (I : Addr) (cl : List (Str × Addr)) : FM := fun a => if ((H a).isSome || a == I || cl.any (fun p => p.2 == a)) then none else s.heap.get? a

theorem kc_some {I a : Addr} {cl : List (Str × Addr)} {o : Obj} (h : kc s H I cl a = some o) : s.heap.get? a = some o ∧ H a = none ∧ a ≠ I ∧ ∀ x, (x, a) ∉ cl := by
  unfold kc at h
  split at h
  · cases h
  · rename_i hn
    simp only [Bool.or_eq_true, not_or, Bool.not_eq_true] at hn
    refine ⟨h, by simpa using hn.1.1, by simpa using hn.1.2, fun x hx => ?_⟩
    have := hn.2
    rw [List.any_eq_false] at this
    exact this _ hx (by simp)
theorem kc_of {I a : Addr} {cl : List (Str × Addr)} {o : Obj} (h : s.heap.get? a = some o) (h1 : H a = none) (h2 : a ≠ I) (h3 : ∀ x, (x, a) ∉ cl) : kc s H I cl a = some o := by
  unfold kc
  rw [if_neg]
  · exact h
  · simp only [Bool.or_eq_true, not_or, Bool.not_eq_true]
    refine ⟨⟨by rw [h1]; rfl, by simpa using h2⟩, ?_⟩
    rw [List.any_eq_false]
    rintro ⟨x, c⟩ hx hc
    have : c = a := by simpa using hc
    subst this; exact h3 x hx
end
theorem compOk_kind {scope sc : Scope} {tgt : List Str} (h : compOk scope sc tgt = true) : scope.kind = .function := by
  simp only [compOk, Bool.and_eq_true] at h; exact eq_of_beq h.1.1.1.1.1
theorem compOk_outer {scope sc : Scope} {tgt : List Str} (h : compOk scope sc tgt = true) : sc.kind = .function := by
  simp only [compOk, Bool.and_eq_true] at h; exact eq_of_beq h.1.1.1.1.2
theorem compOk_free {scope sc : Scope} {tgt : List Str} (h : compOk scope sc tgt = true) {x : Str} (hx : (x, NameKind.free) ∈ scope.names) : sc.names.lookup x = some .cell := by
  simp only [compOk, Bool.and_eq_true] at h
  have := List.all_eq_true.mp h.1.1.1.2 _ hx
  simpa using this
theorem compOk_nodup {scope sc : Scope} {tgt : List Str} (h : compOk scope sc tgt = true) : (scope.names.map (·.1)).Nodup := by
  simp only [compOk, Bool.and_eq_true] at h; exact of_decide_eq_true h.1.1.2
theorem compOk_names {scope sc : Scope} {tgt : List Str} (h : compOk scope sc tgt = true) : ∀ x ∈ scope.names, x.2 = .local → scope.names.lookup x.1 = some .local := fun x hx hl => by
  simp only [compOk, Bool.and_eq_true] at h
  have := List.all_eq_true.mp h.1.2 _ hx
  simpa [hl] using this
theorem compOk_tgt {scope sc : Scope} {tgt : List Str} (h : compOk scope sc tgt = true) : ∀ x ∈ tgt, ownKind (scope.names.lookup x) = true := fun x hx => by
  simp only [compOk, Bool.and_eq_true] at h
  exact List.all_eq_true.mp h.2 _ hx
/-- kinds in the block -/
theorem relab_kind {scope sc : Scope} {tgt : List Str} (h : compOk scope sc tgt = true) (x : Str) : (relab scope sc).names.lookup x = match scope.names.lookup x with
    | some .free => some .cell
    | k => k := by
  show List.lookup x (List.map _ _) = _
  rw [lookup_relab]
  cases hx : scope.names.lookup x with
  | none => rfl
  | some k =>
    cases k with
    | free =>
      have h1 := compOk_free h (mem_of_lookup hx)
      simp [h1, compOk_outer h]
    | _ => rfl
theorem relab_own {scope sc : Scope} {tgt : List Str} (h : compOk scope sc tgt = true) {x : Str} (hx : x ∈ tgt) : ownKind ((relab scope sc).names.lookup x) = true ∧ scope.names.lookup x ≠ some .free := by
  rw [relab_kind h]
  have := compOk_tgt h x hx
  cases hq : scope.names.lookup x with
  | none => rw [hq] at this; cases this
  | some k => rw [hq] at this; cases k <;> first | exact ⟨this, fun e => nomatch e⟩ | cases this

section
variable {G : GC} {kp fz : FM} {env : Env} {σ : SM} {H : HM} {s : Shared} {sc scope : Scope} {cl : List (Str × Addr)} {I D : Addr}

structure Clos (scope : Scope) (env : Env) (cl : List (Str × Addr)) : Prop where
  back : ∀ x c, (x, c) ∈ cl → env.cells.lookup x = some c ∧ (x, NameKind.free) ∈ scope.names
  has : ∀ x, (x, NameKind.free) ∈ scope.names → ∃ c, (x, c) ∈ cl

theorem lookup_of_mem_cl : ∀ {cl : List (Str × Addr)} {x : Str} {c : Addr}, (x, c) ∈ cl → ∃ c', cl.lookup x = some c'
  | (y, d) :: r, x, c, h => by
    rw [List.lookup_cons]
    cases hb : x == y with
    | true => exact ⟨d, rfl⟩
    | false =>
      rcases List.mem_cons.mp h with e | h2
      · cases e; simp at hb
      · exact lookup_of_mem_cl h2
theorem Clos.look (K : Clos scope env cl) {x : Str} (h : (x, NameKind.free) ∈ scope.names) : ∃ c, cl.lookup x = some c ∧ env.cells.lookup x = some c := by
  obtain ⟨c, hc⟩ := K.has x h
  obtain ⟨c', hc'⟩ := lookup_of_mem_cl hc
  exact ⟨c', hc', (K.back _ _ (mem_of_lookup hc')).1⟩

/-- the cells of the block -/
noncomputable def blockCells (C : Addr) (scope : Scope) (cl : List (Str × Addr)) : List (Str × Addr) := cellsFrom (C + 1) scope.names cl

theorem blockCells_free {tgt : List Str} (h : compOk scope sc tgt = true) (C : Addr) {x : Str} (hx : (x, NameKind.free) ∈ scope.names) : (blockCells C scope cl).lookup x = cl.lookup x := by
  unfold blockCells
  rw [cellsFrom_append, List.lookup_append]
  cases hq : (cellsFrom (C + 1) scope.names []).lookup x with
  | none => rfl
  | some c =>
    have h1 := cellsFrom_mem _ _ _ _ (mem_of_lookup hq)
    have e1 := lookup_of_mem (compOk_nodup h) h1
    rw [lookup_of_mem (compOk_nodup h) hx] at e1; cases e1
theorem blockCells_cases (C : Addr) {x : Str} {c : Addr} (h : (blockCells C scope cl).lookup x = some c) : (x, c) ∈ cellsFrom (C + 1) scope.names [] ∨ cl.lookup x = some c := by
  unfold blockCells at h
  rw [cellsFrom_append, List.lookup_append] at h
  cases hq : (cellsFrom (C + 1) scope.names []).lookup x with
  | none => rw [hq] at h; exact .inr h
  | some c' => rw [hq] at h; cases h; exact .inl (mem_of_lookup hq)

theorem Rel.compIn {tgt : List Str} {s' : Shared} {m₀ : MO} {ob : Obj} {h₁ : Heap} {tk : Nat} {cenv : Env} (hc : compOk scope sc tgt = true) (R : Rel G kp fz env σ H s) (hsc : env.scope = sc) (hI : kp I = none ∧ fz I = none ∧ H I = none)
    (K : Clos scope env cl) (hD : s.heap.get? D = none) (hn : ∀ b o, s.heap.get? b = some o → h₁.get? b = some o) (ho : h₁.get? D = some ob) (hv : OV fz m₀ ob) (hsz : s.heap.objs.size ≤ h₁.objs.size)
    (hs' : s' = { s with heap := pushCells (h₁.push { cls := .type "dict", data := .dict #[] }) scope.names, toks := tk })
    (he1 : cenv.scope = relab scope sc) (he2 : cenv.locals = h₁.objs.size) (he3 : cenv.cells = blockCells h₁.objs.size scope cl) :
    Rel G (kc s H I cl) fz cenv (freeOf scope σ) (up H D m₀) s' := by
  subst hs'
  have hk := compOk_kind hc
  have keep : ∀ b o, s.heap.get? b = some o → (pushCells (h₁.push { cls := .type "dict", data := .dict #[] }) scope.names).get? b = some o := fun b o e =>
    pushCells_keeps _ _ _ _ (Heap.get?_push_of_some _ (hn b o e))
  have keep₁ : ∀ b o, h₁.get? b = some o → (pushCells (h₁.push { cls := .type "dict", data := .dict #[] }) scope.names).get? b = some o := fun b o e =>
    pushCells_keeps _ _ _ _ (Heap.get?_push_of_some _ e)
  have hDn : D ≠ h₁.objs.size := Nat.ne_of_lt (Heap.lt_size ho)
  have hko : ∀ x, env.kindOf x = sc.names.lookup x := fun x => by unfold Env.kindOf; rw [hsc]
  have hkc : ∀ x, cenv.kindOf x = (relab scope sc).names.lookup x := fun x => by unfold Env.kindOf; rw [he1]
  have cout : ∀ {x c}, (x, c) ∈ cl → kp c = none ∧ fz c = none ∧ c < s.heap.objs.size ∧ ∃ v, s.heap.IsCell c v := fun {x c} hx => by
    obtain ⟨h1, h2⟩ := K.back _ _ hx
    obtain ⟨c', v, q1, q2, q3, q4⟩ := R.e.own x (by rw [hko]; exact compOk_free hc h2)
    rw [h1] at q1; cases q1
    exact ⟨q3, q4, q2.lt, v, q2⟩
  have big : ∀ c, s.heap.objs.size ≤ c → s.heap.get? c = none := fun c hc => Heap.get?_none_of_le hc
  have kcn : ∀ c, s.heap.get? c = none → kc s H I cl c = none := fun c hc => by unfold kc; split; rfl; exact hc
  obtain ⟨d1, d2, d3⟩ := R.h.fresh hD
  obtain ⟨e1, e2, e3⟩ := R.h.fresh (big _ hsz)
  have ok := cellsFrom_ok scope.names (h₁.push { cls := .type "dict", data := .dict #[] }) (h₁.objs.size + 1) [] ⟨fun _ _ hm => (nomatch hm), List.Pairwise.nil⟩ (by rw [Heap.size_push]; exact Nat.le_refl _)
  rw [Heap.size_push] at ok
  refine ⟨⟨?_, fun a o e => keep _ _ (kc_some e).1, fun a o e => ?_, fun a o e => keep _ _ (R.h.froz a o e), fun r o e => ?_⟩, ⟨⟨fun _ => none, ?_, fun x v e hl => ?_⟩, fun x v e _ => ?_, fun x hx => ?_, fun x y c hx hy => ?_, ?_⟩⟩
  · obtain ⟨h, t, rfl⟩ := R.h.same; exact ⟨_, tk, rfl⟩
  · have hkp := R.h.base _ _ e
    have := R.h.kept _ _ hkp
    rw [← this]
    refine (kc_of (R.h.kept _ _ hkp) ?_ ?_ fun x hx => ?_).trans (R.h.kept _ _ hkp).symm
    · cases q : H a with
      | none => rfl
      | some m => exact absurd rfl (R.h.ne_base q e)
    · rintro rfl; rw [hI.1] at hkp; cases hkp
    · rw [(cout hx).1] at hkp; cases hkp
  · unfold up at e
    split at e
    · rename_i h; subst h; cases e
      exact ⟨ob, keep₁ _ _ ho, hv, kcn _ hD, d2⟩
    · obtain ⟨ob', h1, h2, h3, h4⟩ := R.h.heap r o e
      exact ⟨ob', keep _ _ h1, h2, by unfold kc; rw [e]; rfl, h4⟩
  · rw [he2]
    exact (Heap.Ns.new h₁ (.type "dict")).keeps (pushCells_keeps _ _)
  · have h1 := (freeOf_some e).1
    rw [hkc, relab_kind hc, h1] at hl; cases hl
  · obtain ⟨h1, h2⟩ := freeOf_some e
    have hm := mem_of_lookup h1
    obtain ⟨c, c1, c2⟩ := K.look hm
    obtain ⟨c', val, q1, q2, q3⟩ := R.e.cel x v h2 (.inl (by rw [hko]; exact compOk_free hc hm))
    rw [c2] at q1; cases q1
    exact ⟨c, val, by rw [he3, blockCells_free hc _ hm]; exact c1, q2.keeps keep, q3⟩
  · rw [hkc, relab_kind hc] at hx
    cases hq : scope.names.lookup x with
    | none => rw [hq] at hx; cases hx
    | some k =>
      rw [hq] at hx
      cases k with
      | free =>
        have hm := mem_of_lookup hq
        obtain ⟨c, c1, c2⟩ := K.look hm
        obtain ⟨q1, q2, q3, v, q4⟩ := cout (mem_of_lookup c1)
        refine ⟨c, v, by rw [he3, blockCells_free hc _ hm]; exact c1, q4.keeps keep, ?_, q2⟩
        unfold kc
        rw [if_pos]
        simp only [Bool.or_eq_true]
        exact .inr (List.any_eq_true.mpr ⟨_, mem_of_lookup c1, by simp⟩)
      | cell =>
        obtain ⟨c, hcx⟩ := Option.isSome_iff_exists.mp (cellsFrom_some scope.names (h₁.objs.size + 1) [] (.inl hq))
        have hcm := mem_of_lookup hcx
        obtain ⟨w1, w2⟩ := ok.empty _ _ hcm
        have hnone := big c (by lia)
        refine ⟨c, none, ?_, w1, kcn _ hnone, (R.h.fresh hnone).2.1⟩
        rw [he3]; unfold blockCells; rw [cellsFrom_append, List.lookup_append, hcx]; rfl
      | _ => cases hx
  · rw [he3] at hx hy
    have lt : ∀ {x c}, (x, c) ∈ cellsFrom (h₁.objs.size + 1) scope.names [] → s.heap.objs.size < c := fun hm => by have := (ok.empty _ _ hm).2; lia
    rcases blockCells_cases _ hx with h1 | h1 <;> rcases blockCells_cases _ hy with h2 | h2
    · exact name_of_addr ok.apart h1 h2
    · exact absurd (Nat.lt_trans (lt h1) (cout (mem_of_lookup h2)).2.2.1) (Nat.lt_irrefl _)
    · exact absurd (Nat.lt_trans (lt h2) (cout (mem_of_lookup h1)).2.2.1) (Nat.lt_irrefl _)
    · exact R.e.apart _ _ _ (K.back _ _ (mem_of_lookup h1)).1 (K.back _ _ (mem_of_lookup h2)).1
  · rw [he2]
    exact ⟨kcn _ (big _ hsz), e2, by rw [up_ne _ _ (Ne.symm hDn)]; exact e3⟩

theorem Rel.compOut {tgt : List Str} {s' : Shared} {H' : HM} {fz' : FM} {cenv : Env} (hc : compOk scope sc tgt = true) (R : Rel G kp fz env σ H s) (hsc : env.scope = sc) (hI : kp I = none ∧ fz I = none ∧ H I = none)
    (hIo : ∃ ob fs, s.heap.get? I = some ob ∧ ob.data = .fields fs)
    (K : Clos scope env cl) (hf : freeOk scope σ = true) (he1 : cenv.scope = relab scope sc) {C : Addr} (he3 : cenv.cells = blockCells C scope cl) (hC : s.heap.objs.size ≤ C)
    (g : Grow (kc s H I cl) fz fz') (R' : Rel G (kc s H I cl) fz' cenv (freeOf scope σ) H' s') : Grow kp fz fz' ∧ Rel G kp fz' env σ H' s' := by
  have hko : ∀ x, env.kindOf x = sc.names.lookup x := fun x => by unfold Env.kindOf; rw [hsc]
  have hkc : ∀ x, cenv.kindOf x = (relab scope sc).names.lookup x := fun x => by unfold Env.kindOf; rw [he1]
  have cout : ∀ {x c}, (x, c) ∈ cl → kp c = none ∧ fz c = none ∧ ∃ v, s.heap.IsCell c v := fun {x c} hx => by
    obtain ⟨h1, h2⟩ := K.back _ _ hx
    obtain ⟨c', v, q1, q2, q3, q4⟩ := R.e.own x (by rw [hko]; exact compOk_free hc h2)
    rw [h1] at q1; cases q1
    exact ⟨q3, q4, v, q2⟩
  have sub : ∀ a o, kp a = some o → kc s H I cl a = some o := fun a o e => by
    refine kc_of (R.h.kept _ _ e) ?_ ?_ fun x hx => ?_
    · cases q : H a with
      | none => rfl
      | some m => obtain ⟨_, _, _, h3, _⟩ := R.h.heap _ _ q; rw [e] at h3; cases h3
    · rintro rfl; rw [hI.1] at e; cases e
    · rw [(cout hx).1] at e; cases e
  have kpn : ∀ a, kc s H I cl a = none → kp a = none := fun a h => by
    cases q : kp a with
    | none => rfl
    | some o => rw [sub _ _ q] at h; cases h
  obtain ⟨m, ⟨oL, es, ep, l1, l2⟩, l3⟩ := R.e.loc
  have hLk : kc s H I cl env.locals = some oL := by
    refine kc_of l1 R.e.nL.2.2 ?_ fun x hx => ?_
    · rintro e
      obtain ⟨ob, fs, q1, q2⟩ := hIo
      rw [e, q1] at l1; cases l1; rw [q2] at l2; cases l2.1
    · obtain ⟨_, _, v, o, q1, q2⟩ := cout hx
      rw [l1] at q1; cases q1; rw [q2] at l2; cases l2.1
  have cellK : ∀ {c v}, s.heap.IsCell c v → (∀ x, (x, c) ∉ cl) → ∃ o, kc s H I cl c = some o := fun {c v} hcell hn => by
    obtain ⟨o, q1, q2⟩ := id hcell
    refine ⟨o, kc_of q1 ?_ ?_ hn⟩
    · cases q : H c with
      | none => rfl
      | some m => exact absurd rfl (Rel.ne_cell R.h q hcell)
    · rintro rfl
      obtain ⟨ob, fs, w1, w2⟩ := hIo
      rw [w1] at q1; cases q1; rw [w2] at q2; cases q2
  have cellS : ∀ {c v}, s.heap.IsCell c v → (∀ x, (x, c) ∉ cl) → s'.heap.IsCell c v := fun {c v} hcell hn => by
    obtain ⟨o, q⟩ := cellK hcell hn
    obtain ⟨o', q1, q2⟩ := hcell
    have e := q1.symm.trans (kc_some q).1
    cases e
    exact ⟨_, R'.h.kept _ _ q, q2⟩
  have fzn : ∀ a o, kc s H I cl a = some o → fz a = none → fz' a = none := fun a o h hf => by
    cases q : fz' a with
    | none => rfl
    | some o' =>
      rcases g.2 a (by rw [q]; exact fun h => nomatch h) with h' | h'
      · exact absurd hf h'
      · rw [h] at h'; cases h'
  refine ⟨⟨g.1, fun a e => (g.2 a e).imp id (kpn a)⟩, ⟨R'.h.same, fun a o e => R'.h.kept _ _ (sub _ _ e), R.h.base, R'.h.froz, fun r o e => ?_⟩,
    ⟨⟨m, ⟨oL, es, ep, R'.h.kept _ _ hLk, l2⟩, fun x v e hx => let ⟨val, q1, q2⟩ := l3 x v e hx; ⟨val, q1, q2.mono g.1⟩⟩, fun x v e hx => ?_, fun x hx => ?_, R.e.apart, R.e.nL.1, fzn _ _ hLk R.e.nL.2.1, ?_⟩⟩
  · obtain ⟨ob, h1, h2, h3, h4⟩ := R'.h.heap r o e
    exact ⟨ob, h1, h2, kpn _ h3, h4⟩
  · obtain ⟨c, val, q1, q2, q3⟩ := R.e.cel x v e hx
    by_cases hcl : ∃ y, (y, c) ∈ cl
    · obtain ⟨y, hy⟩ := hcl
      obtain ⟨w1, w2⟩ := K.back _ _ hy
      have := R.e.apart _ _ _ q1 w1; subst this
      have hlk := lookup_of_mem (compOk_nodup hc) w2
      obtain ⟨c', val', z1, z2, z3⟩ := R'.e.cel x v (by unfold freeOf; rw [hlk]; exact e) (.inl (by rw [hkc, relab_kind hc, hlk]))
      rw [he3, blockCells_free hc _ w2] at z1
      rw [(K.back _ _ (mem_of_lookup z1)).1] at q1; cases q1
      exact ⟨c, val', (K.back _ _ (mem_of_lookup z1)).1, z2, z3⟩
    · exact ⟨c, val, q1, cellS q2 fun y hy => hcl ⟨y, hy⟩, q3.mono g.1⟩
  · obtain ⟨c, v, q1, q2, q3, q4⟩ := R.e.own x hx
    by_cases hcl : ∃ y, (y, c) ∈ cl
    · obtain ⟨y, hy⟩ := hcl
      obtain ⟨w1, w2⟩ := K.back _ _ hy
      have := R.e.apart _ _ _ q1 w1; subst this
      have hlk := lookup_of_mem (compOk_nodup hc) w2
      obtain ⟨c', v', z1, z2, z3, z4⟩ := R'.e.own x (by rw [hkc, relab_kind hc, hlk])
      rw [he3, blockCells_free hc _ w2] at z1
      rw [(K.back _ _ (mem_of_lookup z1)).1] at q1; cases q1
      exact ⟨c, v', (K.back _ _ (mem_of_lookup z1)).1, z2, kpn _ z3, z4⟩
    · obtain ⟨o, hko⟩ := cellK q2 fun y hy => hcl ⟨y, hy⟩
      exact ⟨c, v, q1, cellS q2 fun y hy => hcl ⟨y, hy⟩, q3, fzn _ _ hko q4⟩
  · cases q : H' env.locals with
    | none => rfl
    | some m' => obtain ⟨_, _, _, h3, _⟩ := R'.h.heap _ _ q; rw [hLk] at h3; cases h3
end


noncomputable def nmOf : Expr → Option Str
  | .Name x _ => some x
  | _ => none
theorem nmOf_some {t : Expr} {x : Str} (h : nmOf t = some x) : ∃ p, t = .Name x p := by
  unfold nmOf at h
  split at h
  · cases h; exact ⟨_, rfl⟩
  · cases h
noncomputable def asgs (σ : SM) : List Expr → List AV → Option SM
  | [], [] => some σ
  | t :: ts, d :: ds => match nmOf t with
    | some x => asgs (sup σ x d) ts ds
    | none => none
  | _, _ => none
noncomputable def asg (σ : SM) : Expr → AV → Option SM
  | .Name x _, d => some (sup σ x d)
  | .Tuple ts _ _, .tup ds => asgs σ ts ds
  | _, _ => none
noncomputable def nameN (t : Expr) : List Str := (nmOf t).toList
noncomputable def tgtN : Expr → List Str
  | .Name x _ => [x]
  | .Tuple ts _ _ => ts.flatMap nameN
  | _ => []

section
variable {G : GC} {n : Nat} {sc : Scope} {σ : SM} {H : HM}
theorem SAs.asgs {σ1 : SM} : ∀ (ts : List Expr) (ds : List AV) (σ : SM), Mine.asgs σ ts ds = some σ1 → (∀ x ∈ ts.flatMap nameN, ownKind (sc.names.lookup x) = true) → SAs G n sc ts ds σ H (fun σ' H' => σ' = σ1 ∧ H' = H) ∧ ts.length = ds.length ∧ (ts.all fun t => !isStar t) = true := by
  intro ts
  induction ts with
  | nil =>
    intro ds σ h _
    cases ds with
    | nil => cases h; exact ⟨⟨rfl, rfl⟩, rfl, rfl⟩
    | cons d ds => cases h
  | cons t ts ih =>
    intro ds σ h ho
    cases ds with
    | nil => cases h
    | cons d ds =>
      unfold Mine.asgs at h
      cases hn : nmOf t with
      | none => rw [hn] at h; cases h
      | some x =>
        rw [hn] at h
        obtain ⟨p, rfl⟩ := nmOf_some hn
        have hx : ownKind (sc.names.lookup x) = true := ho x (List.mem_flatMap.mpr ⟨_, .head _, by unfold nameN; rw [hn]; exact .head _⟩)
        obtain ⟨h1, h2, h3⟩ := ih ds (sup σ x d) h fun y hy => ho y (by rw [List.flatMap_cons]; exact List.mem_append.mpr (.inr hy))
        exact ⟨⟨rfl, SA.name hx h1⟩, congrArg (· + 1) h2, by rw [List.all_cons, h3]; rfl⟩
theorem SA.asg {t : Expr} {d : AV} {σ1 : SM} (h : Mine.asg σ t d = some σ1) (ho : ∀ x ∈ tgtN t, ownKind (sc.names.lookup x) = true) : SA G n sc t d σ H (fun σ' H' => σ' = σ1 ∧ H' = H) := by
  unfold Mine.asg at h
  split at h
  · cases h; exact SA.name (ho _ (.head _)) ⟨rfl, rfl⟩
  · obtain ⟨h1, h2, h3⟩ := SAs.asgs (G := G) (n := n) (H := H) _ _ _ h ho
    exact SA.tuple h3 h2 h1
  · cases h
theorem sup_sub {σ₀ σ : SM} {x : Str} {d : AV} (h : σ₀ x = none) (k : Sub σ₀ σ) : Sub σ₀ (sup σ x d) := fun y o e => by
  unfold sup
  have : y ≠ x := by rintro rfl; rw [h] at e; cases e
  rw [if_neg this]; exact k y o e
theorem asgs_sub {σ₀ σ1 : SM} : ∀ (ts : List Expr) (ds : List AV) (σ : SM), asgs σ ts ds = some σ1 → (∀ x ∈ ts.flatMap nameN, σ₀ x = none) → Sub σ₀ σ → Sub σ₀ σ1 := by
  intro ts
  induction ts with
  | nil =>
    intro ds σ h _ k
    cases ds with
    | nil => cases h; exact k
    | cons d ds => cases h
  | cons t ts ih =>
    intro ds σ h ho k
    cases ds with
    | nil => cases h
    | cons d ds =>
      unfold asgs at h
      cases hn : nmOf t with
      | none => rw [hn] at h; cases h
      | some x =>
        rw [hn] at h
        exact ih ds _ h (fun y hy => ho y (by rw [List.flatMap_cons]; exact List.mem_append.mpr (.inr hy))) (sup_sub (ho x (List.mem_flatMap.mpr ⟨_, .head _, by unfold nameN; rw [hn]; exact .head _⟩)) k)
theorem asg_sub {t : Expr} {d : AV} {σ1 : SM} (h : asg σ t d = some σ1) (ho : ∀ x ∈ tgtN t, σ x = none) : Sub σ σ1 := by
  unfold asg at h
  split at h
  · cases h; exact sup_sub (ho _ (.head _)) (Sub.refl _)
  · exact asgs_sub _ _ _ h ho (Sub.refl _)
  · cases h
end

noncomputable def STs (G : GC) (n : Nat) (sc : Scope) : List Expr → SM → HM → (Bool → HM → Prop) → Prop
  | [], _, H, K => K true H
  | [c], σ, H, K => ST G n sc c σ H K
  | _, _, _, _ => False
noncomputable abbrev testsOf (ifs : List Expr) (env : Env) : Sem Bool := forIn ifs true fun c r => if r = true then do let ok ← isTrue c env (eval c env); pure (ForInStep.yield ok) else pure (ForInStep.yield r)
theorem STs.run {G : GC} {n : Nat} {sc : Scope} {σ : SM} {H : HM} : ∀ {ifs : List Expr} {K : Bool → HM → Prop}, STs G n sc ifs σ H K → ∀ {A : Around} {kp fz : FM} {env : Env} {s : Shared}, Good n A → EnvOk G sc env → Rel G kp fz env σ H s →
    ∀ {P : Bool → Shared → Prop}, (∀ b s' fz' H', Grow kp fz fz' → Rel G kp fz' env σ H' s' → K b H' → P b s') → wpAny (model G.prog G.w) A (testsOf ifs env) P NoE s
  | [], K, h, A, kp, fz, env, s, g, ok, R, P, k => wpAny_tests_nil (k true s fz H (.refl ..) R h)
  | [c], K, h, A, kp, fz, env, s, g, ok, R, P, k => wpAny_tests_one (ST.run (show ST G n sc c σ H K from h) g ok R fun b s' fz' H' g' R' q => k b s' fz' H' g' R' q)
  | _ :: _ :: _, _, h, _, _, _, _, _, _, _, _, _, _ => h.elim

/-- what a turn adds -/
noncomputable def Em (G : GC) (n : Nat) (sc : Scope) (emit : Value → Env → Sem Unit) (σ : SM) (H : HM) (m : MO) (K : MO → HM → Prop) : Prop :=
  ∀ (A : Around) (kp fz : FM) (env : Env) (s : Shared) (D : Addr), Good n A → EnvOk G sc env → Rel G kp fz env σ (up H D m) s → H D = none →
    wpAny (model G.prog G.w) A (emit (.ref D) env) (fun _ s' => Ex3 fun fz' m' H' => A4 (Grow kp fz fz') (Rel G kp fz' env σ (up H' D m') s') (H' D = none) (K m' H')) NoE s

noncomputable def CmpW (G : GC) (n : Nat) (sc : Scope) (tgt : Expr) (ifs : List Expr) (emit : Value → Env → Sem Unit) (σc : SM) (Q : MO → HM → Prop) : List AV → MO → HM → Prop
  | [], m, H => Q m H
  | d :: ds, m, H => ∃ σ1, asg σc tgt d = some σ1 ∧ STs G n sc ifs σ1 H fun b H1 => (b = true → Em G n sc emit σ1 H1 m fun m' H2 => CmpW G n sc tgt ifs emit σc Q ds m' H2) ∧ (b = false → CmpW G n sc tgt ifs emit σc Q ds m H1)

noncomputable def LoopRule (G : GC) (e tgt : Expr) (ifs : List Expr) (emit : Value → Env → Sem Unit) : Prop :=
  ∀ (A : Around) (env : Env) (it acc : Value) (R : Result → Shared → Prop) (Inv : Nat → Shared → Prop), (∀ n s, Inv n s → wpAny (model G.prog G.w) A (pyNext it) (fun r s₁ => match r with
    | none => R (.ok .next) s₁
    | some v => wpAny (model G.prog G.w) A (letOwnedTupleGo tgt it v) (fun _ s₁' => wpAny (model G.prog G.w) A (assign tgt env v) (fun _ s₂ => wpAny (model G.prog G.w) A (testsOf ifs env)
        (fun ok s₃ => if ok = true then wpAny (model G.prog G.w) A (emit acc env) (fun _ s₄ => ∃ m, m < n ∧ Inv m s₄) NoE s₃ else ∃ m, m < n ∧ Inv m s₃) NoE s₂) NoE s₁') NoE s₁) NoE s) →
      ∀ n s, Inv n s → codeAny (model G.prog G.w) A (.compLoop e 0 it acc env) R s
noncomputable def StartRule (G : GC) (e : Expr) : Prop :=
  ∀ (A : Around) (env : Env) (it acc : Value) (R : Result → Shared → Prop) (s : Shared), codeAny (model G.prog G.w) A (.compLoop e 0 it acc env) R s →
    wpAny (model G.prog G.w) A (pyIter it) (fun it' s' => codeAny (model G.prog G.w) A (.compLoop e 0 it' acc env) R s') NoE s → codeAny (model G.prog G.w) A (.compStart e 0 it acc env) R s

theorem del_up_none (H : HM) {D : Addr} {m : MO} (h : H D = none) : del (up H D m) D = H := by
  funext a; unfold del up; split
  · rename_i e; subst e; exact h.symm
  · rfl

section
variable {G : GC} {n : Nat} {sc : Scope}
theorem comp_core {A : Around} {kp₀ fz₀ kp fz : FM} {env : Env} {σ : SM} {H : HM} {s : Shared} {e tgt : Expr} {ifs : List Expr} {emit : Value → Env → Sem Unit} {I D : Addr} {ds : List AV} {fp : List Addr} {St : Nat → Heap → Prop}
    {m : MO} {Q : MO → HM → Prop} (L : LoopRule G e tgt ifs emit) (W : It G A tgt I ds kp₀ fz₀ fp St) (hk₀ : Sub kp₀ kp) (hf₀ : Sub fz₀ fz) (g : Good n A) (ok : EnvOk G sc env) (R : Rel G kp fz env σ (up H D m) s)
    (hk : kp I = none) (hf : fz I = none) (hI : H I = none) (hID : I ≠ D) (hD : H D = none) (h0 : St 0 s.heap) (ho : ∀ x ∈ tgtN tgt, ownKind (sc.names.lookup x) = true) (hσ : ∀ x ∈ tgtN tgt, σ x = none)
    (hw : CmpW G n sc tgt ifs emit σ Q ds m H) :
    codeAny (model G.prog G.w) A (.compLoop e 0 (.ref I) (.ref D) env) (fun r s' => Ex4 fun f fz' m' H' => A5 (r = .ok f) (Grow kp fz fz') (Rel G kp fz' env σ (up H' D m') s') (H' D = none) (Q m' H')) s := by
  refine L A env _ _ _ (fun k s' => Ex4 fun i fz' m' H' => A9 (k = ds.length + 1 - i) (i ≤ ds.length) (Grow kp fz fz') (Rel G kp fz' env σ (up H' D m') s') (fz' I = none) (H' I = none) (H' D = none) (St i s'.heap) (CmpW G n sc tgt ifs emit σ Q (ds.drop i) m' H')) ?_ (ds.length + 1) s ⟨0, fz, m, H, rfl, Nat.zero_le _, .refl .., R, hf, hI, hD, h0, hw⟩
  rintro k s1 ⟨i, fz1, m1, H1, rfl, hi, g1, R1, f1, n1, d1, st1, w1⟩
  rcases Nat.lt_or_ge i ds.length with hlt | hge
  · have hd : ds[i]? = some ds[i] := List.getElem?_eq_getElem hlt
    rw [List.drop_eq_getElem_cons hlt] at w1
    unfold CmpW at w1
    obtain ⟨σ1, ha, w1⟩ := w1
    refine wpAny_mono (W.item i ds[i] kp fz1 env σ (up H1 D m1) s1 (fun v s2 => Ex1 fun fz2 => A5 (Grow kp fz1 fz2) (Rel G kp fz2 env σ (up H1 D m1) s2) (fz2 I = none) (V fz2 ds[i] v) (St (i + 1) s2.heap)) hd hk₀ (fun a o e => g1.1 _ _ (hf₀ a o e)) R1 hk f1
      (by rw [up_ne _ _ hID]; exact n1) st1 fun v s' fz' a b c d e => ⟨fz', a, b, c, d, e⟩) (fun r s2 h2 => ?_) fun _ _ x => x.elim
    obtain ⟨v, rfl, h2⟩ := h2
    refine wpAny_mono h2 (fun _ s2 h2 => ?_) fun _ _ x => x
    obtain ⟨fz2, g2, R2, f2, v2, st2⟩ := h2
    obtain ⟨ob, fs, hob, hdat⟩ := W.ob _ _ st2
    have R2' := R2.hold (by rw [up_ne _ _ hID]; exact n1) hob hdat
    have hsub : Sub kp (up kp I ob) := sub_up hk
    have later : ∀ {fz3 σ3 H3 s3}, Grow (up kp I ob) fz2 fz3 → Rel G (up kp I ob) fz3 env σ3 H3 s3 → fz3 I = none ∧ H3 I = none ∧ St (i + 1) s3.heap := fun {fz3 σ3 H3 s3} g3 R3 => by
      refine ⟨g3.none f2, ?_, W.frame _ _ _ st2 fun b hb o e => ?_⟩
      · cases q : H3 I with
        | none => rfl
        | some m => have := (R3.h.heap _ _ q).choose_spec.2.2.1; rw [up_self] at this; cases this
      · rcases hb with rfl | hb
        · rw [hob] at e; cases e; exact R3.h.kept _ _ (up_self ..)
        · obtain ⟨o', ho'⟩ := W.fix b hb
          rcases ho' with ho' | ho'
          · have e1 := R2.h.kept _ _ (hk₀ _ _ ho')
            rw [e] at e1; cases e1
            exact R3.h.kept _ _ (hsub _ _ (hk₀ _ _ ho'))
          · have e1 := R2.h.froz _ _ (g2.1 _ _ (g1.1 _ _ (hf₀ _ _ ho')))
            rw [e] at e1; cases e1
            exact R3.h.froz _ _ (g3.1 _ _ (g2.1 _ _ (g1.1 _ _ (hf₀ _ _ ho'))))
    -- the made list is held as well, while the names are bound and the tests run
    obtain ⟨obD, hoD, R2D, hvD, hkD, hfD⟩ := R2'.holdH (r := D) (m := m1) (up_self ..)
    rw [del_up_none _ d1] at R2D
    have base' : ∀ a o, G.h₀.get? a = some o → up kp I ob a = some o := R2'.h.base
    refine wpAny_mono ((SA.asg (G := G) (n := n) (H := H1) ha ho).run g ok R2D v2 (P := fun _ s3 => wpAny (model G.prog G.w) A (testsOf ifs env) _ NoE s3) fun s3 fz3 σ3 H3 g3 R3 w3 => ?_) (fun _ _ q => q) fun _ _ x => x
    obtain ⟨rfl, rfl⟩ := w3
    refine w1.run g ok R3 fun b s4 fz4 H4 g4 R4 w4 => ?_
    have g34 := g3.trans g4
    have R4' := R4.unholdH g34 base' hkD hfD hvD
    have g34' := g34.less (sub_up hkD)
    have hD4 : H4 D = none := by
      cases q : H4 D with
      | none => rfl
      | some m => have := (R4.h.heap _ _ q).choose_spec.2.2.1; rw [up_self] at this; cases this
    have fin : ∀ {s5 fz5 m5 H5}, Grow (up kp I ob) fz4 fz5 → Rel G (up kp I ob) fz5 env σ3 (up H5 D m5) s5 → H5 D = none → CmpW G n sc tgt ifs emit σ Q (ds.drop (i + 1)) m5 H5 →
        ∃ k', k' < ds.length + 1 - i ∧ Ex4 fun i fz' m' H' => A9 (k' = ds.length + 1 - i) (i ≤ ds.length) (Grow kp fz fz') (Rel G kp fz' env σ (up H' D m') s5) (fz' I = none) (H' I = none) (H' D = none) (St i s5.heap) (CmpW G n sc tgt ifs emit σ Q (ds.drop i) m' H') := fun {s5 fz5 m5 H5} g5 R5 d5 w5 => by
      have g35 := g34'.trans g5
      obtain ⟨f5, n5, st5⟩ := later g35 R5
      rw [up_ne _ _ hID] at n5
      exact ⟨ds.length + 1 - (i + 1), by lia, i + 1, fz5, m5, H5, rfl, hlt, (g1.trans g2).trans (g35.less hsub), (R5.less hsub R.h.base).weak (asg_sub ha hσ) (Sub.refl _), f5, n5, d5, st5, w5⟩
    cases b with
    | true =>
      rw [if_pos rfl]
      refine wpAny_mono (w4.1 rfl A _ fz4 env s4 D g ok R4' hD4) (fun _ s5 h5 => ?_) fun _ _ x => x
      obtain ⟨fz5, m5, H5, g5, R5, d5, w5⟩ := h5
      exact fin g5 R5 d5 w5
    | false =>
      rw [if_neg Bool.false_ne_true]
      exact fin (.refl ..) R4' hD4 (w4.2 rfl)
  · have hi' : i = ds.length := Nat.le_antisymm hi hge
    subst hi'
    rw [List.drop_length] at w1
    refine wpAny_mono (W.done kp fz1 env σ (up H1 D m1) s1 (fun s2 => Rel G kp fz1 env σ (up H1 D m1) s2) hk₀ (fun a o e => g1.1 _ _ (hf₀ a o e)) R1 hk f1 (by rw [up_ne _ _ hID]; exact n1) st1 fun s' a _ => a) (fun r s2 h2 => ?_) fun _ _ x => x.elim
    obtain ⟨rfl, R2⟩ := h2
    exact ⟨_, fz1, m1, H1, rfl, g1, R2, d1, w1⟩
end


section
variable {G : GC} {kp fz : FM} {env : Env} {σ : SM} {H : HM} {s : Shared} {sc scope : Scope} {cl : List (Str × Addr)} {I D : Addr}

theorem Rel.kcSub {tgt : List Str} (hc : compOk scope sc tgt = true) (R : Rel G kp fz env σ H s) (hsc : env.scope = sc) (hI : kp I = none) (K : Clos scope env cl) : Sub kp (kc s H I cl) := by
  have hko : ∀ x, env.kindOf x = sc.names.lookup x := fun x => by unfold Env.kindOf; rw [hsc]
  intro a o e
  have := R.h.kept _ _ e
  rw [← this]
  refine (kc_of this ?_ ?_ fun x hx => ?_).trans this.symm
  · cases q : H a with
    | none => rfl
    | some m => obtain ⟨_, _, _, h3, _⟩ := R.h.heap _ _ q; rw [e] at h3; cases h3
  · rintro rfl; rw [hI] at e; cases e
  · obtain ⟨h1, h2⟩ := K.back _ _ hx
    obtain ⟨c', v, q1, q2, q3, q4⟩ := R.e.own x (by rw [hko]; exact compOk_free hc h2)
    rw [h1] at q1; cases q1
    rw [q3] at e; cases e

/-- a thing that nobody knows of, whatever it is -/
theorem Rel.sameBut {h' : Heap} {C : Addr} (R : Rel G kp fz env σ H s) (hk : kp C = none) (hf : fz C = none) (hH : H C = none) (hL : env.locals ≠ C) (hn : ∃ m, s.heap.Ns C m) (k : Heap.SameBut C s.heap h') :
    Rel G kp fz env σ H { s with heap := h' } := by
  have cell : ∀ {c v}, s.heap.IsCell c v → h'.IsCell c v := fun {c v} hc => by
    obtain ⟨o, q1, q2⟩ := hc
    refine ⟨o, (k.2 c ?_).trans q1, q2⟩
    rintro rfl
    obtain ⟨m, o', es, ep, w1, w2, _⟩ := hn
    rw [q1] at w1; cases w1; rw [q2] at w2; cases w2
  have kk : ∀ b o, b ≠ C → s.heap.get? b = some o → h'.get? b = some o := fun b o hb e => (k.2 b hb).trans e
  refine ⟨R.h.keepsBut (tk := s.toks) hk hf hH kk, ⟨?_, fun x v e hx => let ⟨c, val, h1, h2, h3⟩ := R.e.cel x v e hx; ⟨c, val, h1, cell h2, h3⟩, fun x hx => let ⟨c, v, h1, h2, h3⟩ := R.e.own x hx; ⟨c, v, h1, cell h2, h3⟩, R.e.apart, R.e.nL⟩⟩
  obtain ⟨m, ⟨o, es, ep, q1, q2⟩, h2⟩ := R.e.loc
  exact ⟨m, ⟨o, es, ep, kk _ _ hL q1, q2⟩, h2⟩
/-- it may be held -/
theorem Rel.holdN {C : Addr} {ob : Obj} (R : Rel G kp fz env σ H s) (hH : H C = none) (hL : env.locals ≠ C) (ho : s.heap.get? C = some ob) (hn : ∃ m, s.heap.Ns C m) : Rel G (up kp C ob) fz env σ H s := by
  refine ⟨⟨R.h.same, fun a o e => ?_, fun a o e => ?_, R.h.froz, fun r o e => ?_⟩, ⟨R.e.loc, R.e.cel, fun x hx => ?_, R.e.apart, by rw [up_ne _ _ hL]; exact R.e.nL⟩⟩
  · unfold up at e; split at e
    · rename_i h; subst h; cases e; exact ho
    · exact R.h.kept a o e
  · unfold up; split
    · rename_i h; subst h
      have := R.h.kept _ _ (R.h.base _ _ e)
      rw [ho] at this; exact this
    · exact R.h.base a o e
  · obtain ⟨ob', h1, h2, h3, h4⟩ := R.h.heap r o e
    refine ⟨ob', h1, h2, ?_, h4⟩
    rw [up_ne _ _ (by rintro rfl; rw [hH] at e; cases e)]; exact h3
  · obtain ⟨c, v, h1, h2, h3, h4⟩ := R.e.own x hx
    refine ⟨c, v, h1, h2, ?_, h4⟩
    have : c ≠ C := by
      rintro rfl
      obtain ⟨o, q1, q2⟩ := h2
      obtain ⟨m, o', es, ep, w1, w2, _⟩ := hn
      rw [q1] at w1; cases w1; rw [q2] at w2; cases w2
    rw [up_ne _ _ this]; exact h3
end

section
variable {G : GC} {n : Nat} {sc : Scope} {σ : SM} {H : HM}

theorem comp_block {A : Around} {kp fz : FM} {env : Env} {s : Shared} {e tgt : Expr} {ifs : List Expr} {emit : Value → Env → Sem Unit} {scope : Scope} {cl : List (Str × Addr)} {I : Addr} {ds : List AV} {fp : List Addr} {St : Nat → Heap → Prop}
    {m₀ : MO} {ob₀ : Obj} {Q : MO → HM → Prop} {newAcc : Sem Value} (L : LoopRule G e tgt ifs emit) (S : StartRule G e)
    (hnew : ∀ (s : Shared) (P : Value → Shared → Prop), P (.ref s.heap.objs.size) { s with heap := s.heap.push ob₀ } → wpAny (model G.prog G.w) A newAcc P NoE s) (hv₀ : ∀ fz, OV fz m₀ ob₀) (hob : ob₀.isFreed = false)
    (hc : compOk scope sc (tgtN tgt) = true) (hfree : freeOk scope σ = true) (K : Clos scope env cl)
    (W : It G A tgt I ds kp fz fp St) (self : ∀ i (s' : Shared) (Q : Value → Shared → Prop), St i s'.heap → Q (.ref I) s' → wpAny (model G.prog G.w) A (pyIter (.ref I)) Q NoE s')
    (g : Good n A) (ok : EnvOk G sc env) (R : Rel G kp fz env σ H s) (hk : kp I = none) (hf : fz I = none) (hI : H I = none) (h0 : St 0 s.heap)
    (hw : CmpW G n (relab scope sc) tgt ifs emit (freeOf scope σ) Q ds m₀ H) {PP : Value → Addr → Result → Shared → Prop}
    (fin : ∀ D C fz' m' H' s' f, Grow kp fz fz' → Rel G kp fz' env σ (up H' D m') s' → H' D = none → kp C = none → fz' C = none → (up H' D m') C = none → env.locals ≠ C → (∃ m, s'.heap.Ns C m) → Q m' H' → PP (.ref D) C (.ok f) s') :
    wpAny (model G.prog G.w) A newAcc (fun acc s₃ => wpAny (model G.prog G.w) A (newFunctionEnv scope env.globals cl [] env.qual none .none (some env)) (fun cenv s₄ =>
      codeAny (model G.prog G.w) A (.compStart e 0 (.ref I) acc { cenv with scope := relabel scope env }) (PP acc cenv.locals) s₄) NoE s₃) NoE s := by
  refine hnew s _ (wpAny_newEnvComp ?_)
  obtain ⟨ob, fs, hIo, hIf⟩ := W.ob _ _ h0
  have hsz : (s.heap.push ob₀).objs.size = s.heap.objs.size + 1 := Heap.size_push ..
  have big : ∀ c, s.heap.objs.size ≤ c → s.heap.get? c = none := fun c hc => Heap.get?_none_of_le hc
  have hD := big _ (Nat.le_refl _)
  obtain ⟨d1, d2, d3⟩ := R.h.fresh hD
  have hC := big (s.heap.push ob₀).objs.size (by rw [hsz]; exact Nat.le_succ _)
  obtain ⟨c1, c2, c3⟩ := R.h.fresh hC
  have hID : I ≠ s.heap.objs.size := Nat.ne_of_lt (Heap.lt_size hIo)
  have hsub := R.kcSub hc ok.scope hk K
  have hDC : s.heap.objs.size ≠ (s.heap.push ob₀).objs.size := by rw [hsz]; exact Nat.ne_of_lt (Nat.lt_succ_self _)
  generalize hcenv : ({ (newEnv scope (s.heap.push ob₀).objs.size env.globals (cellsFrom ((s.heap.push ob₀).objs.size + 1) scope.names cl) env.qual none .none (some env) builtinsNs) with scope := relabel scope env } : Env) = cenv
  have he1 : cenv.scope = relab scope sc := by rw [← hcenv, ← ok.scope]; rfl
  have he2 : cenv.locals = (s.heap.push ob₀).objs.size := by rw [← hcenv]; rfl
  have he3 : cenv.cells = blockCells (s.heap.push ob₀).objs.size scope cl := by rw [← hcenv]; rfl
  have eok : EnvOk G (relab scope sc) cenv := ⟨ok.ok, he1, show scope.kind = _ from compOk_kind hc, by rw [← hcenv]; exact ok.globals, by rw [← hcenv]; exact ok.builtins⟩
  have RI := R.compIn (s' := { s with heap := pushCells ((s.heap.push ob₀).push { cls := .type "dict", data := .dict #[] }) scope.names }) (tk := s.toks) hc ok.scope ⟨hk, hf, hI⟩ K hD (fun b o e => Heap.get?_push_of_some _ e) (Heap.get?_push_size _ hob) (hv₀ fz)
    (by rw [hsz]; exact Nat.le_succ _) rfl he1 he2 he3
  have h0' : St 0 (pushCells ((s.heap.push ob₀).push { cls := .type "dict", data := .dict #[] }) scope.names) := W.frame _ _ _ h0 fun b _ o e => pushCells_keeps _ _ _ _ (Heap.get?_push_of_some _ (Heap.get?_push_of_some _ e))
  have hkI : kc s H I cl I = none := by unfold kc; simp
  have core := comp_core (e := e) (D := s.heap.objs.size) (m := m₀) L W hsub (Sub.refl _) g eok RI hkI hf hI hID d3 h0' (fun x hx => (relab_own hc hx).1) (fun x hx => by
    unfold freeOf
    have := (relab_own hc hx).2
    split
    · rename_i h; exact absurd h this
    · rfl) hw
  have main : codeAny (model G.prog G.w) A (.compLoop e 0 (.ref I) (.ref s.heap.objs.size) cenv) (PP (.ref s.heap.objs.size) (s.heap.push ob₀).objs.size) { s with heap := pushCells ((s.heap.push ob₀).push { cls := .type "dict", data := .dict #[] }) scope.names } := by
    refine codeAny_mono core fun r s' h => ?_
    obtain ⟨f, fz', m', H', rfl, g1, R1, hD', q⟩ := h
    obtain ⟨g2, R2⟩ := R.compOut hc ok.scope ⟨hk, hf, hI⟩ ⟨ob, fs, hIo, hIf⟩ K hfree he1 he3 (by rw [hsz]; exact Nat.le_succ _) g1 R1
    have nL := R1.e.nL
    rw [he2] at nL
    obtain ⟨m, hm, _⟩ := R1.e.loc
    rw [he2] at hm
    exact fin _ _ fz' m' H' s' f g2 R2 hD' c1 nL.2.1 nL.2.2 (R.ne_loc hC) ⟨m, hm⟩ q
  exact S A _ _ _ _ _ main (self 0 _ _ h0' main)
/-! the two kinds that the text has -/
noncomputable def emitL (elt : Expr) (acc : Value) (env : Env) : Sem Unit := do let _ ← call (.builtin "list.append") [acc, ← eval elt env]
noncomputable def emitD (k v : Expr) (acc : Value) (env : Env) : Sem Unit := do
  let kv ← eval k env
  let vv ← holding [kv] (eval v env)
  match acc with
  | .ref d => do
    standAt { k.pos with endLine := v.pos.endLine, endCol := v.pos.endCol }
    holding [kv, vv] (dictSet d kv vv)
  | _ => unsupported "internal:dictcomp"

theorem loopRule_list {elt tgt iter : Expr} {ifs : List Expr} {scope : Scope} {pos : Pos} : LoopRule G (.ListComp elt [⟨tgt, iter, ifs, 0⟩] scope pos) tgt ifs (emitL elt) := by
  intro A env it acc R Inv turn n s h
  refine codeAny_loop rfl Inv (fun n s hI => ?_) n h
  show wpAny _ A ((compTurn (.ListComp elt [⟨tgt, iter, ifs, 0⟩] scope pos) 0 it acc env).onRaise (fun x => do noteFrame x env; theTreesLotGoes x)) _ _ s
  refine wpAny_noted ?_
  rw [compTurn_list]
  refine wpAny_bind (wpAny_standAt (wpAny_bind (wpAny_mono (turn n s hI) (fun r s₁ h₁ => ?_) fun _ _ h' => h'.elim)))
  cases r with
  | none => exact wpAny_pure h₁
  | some v =>
    refine wpAny_bind (wpAny_mono h₁ (fun _ s₂ h₂ => wpAny_bind (wpAny_mono h₂ (fun _ s₃ h₃ => wpAny_bind (wpAny_mono h₃ (fun ok s₄ h₄ => ?_) fun _ _ h' => h'.elim)) fun _ _ h' => h'.elim)) fun _ _ h' => h'.elim)
    cases ok with
    | false => exact wpAny_pure ⟨rfl, h₄⟩
    | true => exact wpAny_bind (wpAny_mono h₄ (fun _ s₅ h₅ => wpAny_pure ⟨rfl, h₅⟩) fun _ _ h' => h'.elim)

theorem compTurn_dict (k v target iter : Expr) (ifs : List Expr) (scope : Scope) (pos : Pos) (it acc : Value) (env : Env) :
    compTurn (.DictComp k v [⟨target, iter, ifs, 0⟩] scope pos) 0 it acc env = (do
      standAt iter.pos
      match ← pyNext it with
      | none => pure (.done .next)
      | some x =>
        letOwnedTupleGo target it x
        assign target env x
        let mut ok := true
        for c in ifs do
          if ok then ok ← isTrue c env (eval c env)
        if ok then
          emitD k v acc env
        again (.compLoop (.DictComp k v [⟨target, iter, ifs, 0⟩] scope pos) 0 it acc env)) := by rfl
theorem loopRule_dict {k v tgt iter : Expr} {ifs : List Expr} {scope : Scope} {pos : Pos} : LoopRule G (.DictComp k v [⟨tgt, iter, ifs, 0⟩] scope pos) tgt ifs (emitD k v) := by
  intro A env it acc R Inv turn n s h
  refine codeAny_loop rfl Inv (fun n s hI => ?_) n h
  show wpAny _ A ((compTurn (.DictComp k v [⟨tgt, iter, ifs, 0⟩] scope pos) 0 it acc env).onRaise (fun x => do noteFrame x env; theTreesLotGoes x)) _ _ s
  refine wpAny_noted ?_
  rw [compTurn_dict]
  refine wpAny_bind (wpAny_standAt (wpAny_bind (wpAny_mono (turn n s hI) (fun r s₁ h₁ => ?_) fun _ _ h' => h'.elim)))
  cases r with
  | none => exact wpAny_pure h₁
  | some v =>
    refine wpAny_bind (wpAny_mono h₁ (fun _ s₂ h₂ => wpAny_bind (wpAny_mono h₂ (fun _ s₃ h₃ => wpAny_bind (wpAny_mono h₃ (fun ok s₄ h₄ => ?_) fun _ _ h' => h'.elim)) fun _ _ h' => h'.elim)) fun _ _ h' => h'.elim)
    cases ok with
    | false => exact wpAny_pure ⟨rfl, h₄⟩
    | true => exact wpAny_bind (wpAny_mono h₄ (fun _ s₅ h₅ => wpAny_pure ⟨rfl, h₅⟩) fun _ _ h' => h'.elim)

theorem startRule_list {elt tgt iter : Expr} {ifs : List Expr} {scope : Scope} {pos : Pos} : StartRule G (.ListComp elt [⟨tgt, iter, ifs, 0⟩] scope pos) := fun A env it acc R s h0 h =>
  codeAny_compStart_list h0 (wpAny_mono h (fun _ _ q => q) fun _ _ x => x.elim)
theorem startRule_dict {k v tgt iter : Expr} {ifs : List Expr} {scope : Scope} {pos : Pos} : StartRule G (.DictComp k v [⟨tgt, iter, ifs, 0⟩] scope pos) := fun A env it acc R s h0 h => by
  refine codeAny_of_tree ?_
  show wpAny _ _ ((compStart (.DictComp k v [⟨tgt, iter, ifs, 0⟩] scope pos) 0 it acc env).onRaise (fun x => do noteFrame x env; standAt theWindowsPlace)) _ _ s
  refine wpAny_notedAt ?_
  unfold compStart
  show wpAny _ _ (ask >>= _) _ _ s
  refine wpAny_bind (wpAny_askSetting (wpAny_ite ?_))
  split
  · exact wpAny_bind (wpAny_pure (wpAny_pure (And.intro rfl h0)))
  · refine wpAny_bind (wpAny_rule ?_)
    show wpAny _ _ (standAt iter.pos >>= _) _ _ s
    exact wpAny_bind (wpAny_standAt (wpAny_bind (wpAny_mono h (fun it' s' h' => wpAny_pure (And.intro rfl h')) fun _ _ x => x.elim)))

theorem new_list {A : Around} (s : Shared) (P : Value → Shared → Prop) (h : P (.ref s.heap.objs.size) { s with heap := s.heap.push { cls := .type "list", data := .seq (List.toArray ([] : List Value)) } }) :
    wpAny (model G.prog G.w) A (newList []) P NoE s := wpAny_newList h
theorem new_dict {A : Around} (s : Shared) (P : Value → Shared → Prop) (h : P (.ref s.heap.objs.size) { s with heap := s.heap.push { cls := .type "dict", data := .dict #[] } }) :
    wpAny (model G.prog G.w) A newDict P NoE s := wpAny_newObj_type h
theorem OV.newList (fz : FM) : OV fz (.list []) { cls := .type "list", data := .seq (List.toArray ([] : List Value)) } := ⟨[], 0, rfl, by simp only [VL]⟩
theorem OV.newDict (fz : FM) : OV fz (.dict []) { cls := .type "dict", data := .dict #[] } := ⟨⟨rfl, rfl, rfl⟩, [], 0, rfl, rfl, List.nodup_nil⟩

/-- a comprehension as an expression -/
noncomputable def CompT (G : GC) (n : Nat) (sc : Scope) (scope : Scope) (tgt iter : Expr) (ifs : List Expr) (emit : Value → Env → Sem Unit) (m₀ : MO) (σ : SM) (H : HM) (Q : MO → HM → Prop) : Prop :=
  SIt G n sc iter tgt σ H fun ds H1 => CmpW G n (relab scope sc) tgt ifs emit (freeOf scope σ) Q ds m₀ H1

theorem comp_plain {A : Around} {kp fz : FM} {env : Env} {s : Shared} {e tgt iter : Expr} {ifs : List Expr} {emit : Value → Env → Sem Unit} {scope : Scope} {pos : Pos} {m₀ : MO} {ob₀ : Obj} {Q : MO → HM → Prop} {newAcc : Sem Value}
    (hcl : clausesOf e = [⟨tgt, iter, ifs, 0⟩]) (L : LoopRule G e tgt ifs emit) (S : StartRule G e)
    (hnew : ∀ (s : Shared) (P : Value → Shared → Prop), P (.ref s.heap.objs.size) { s with heap := s.heap.push ob₀ } → wpAny (model G.prog G.w) A newAcc P NoE s) (hv₀ : ∀ fz, OV fz m₀ ob₀) (hob : ob₀.isFreed = false)
    (hc : compOk scope sc (tgtN tgt) = true) (hfree : freeOk scope σ = true) (hs : isSetE iter = false) (g : Good n A) (ok : EnvOk G sc env) (R : Rel G kp fz env σ H s)
    (h : CompT G n sc scope tgt iter ifs emit m₀ σ H Q) :
    wpAny (model G.prog G.w) A (comprehension e scope env pos newAcc false (eval iter env)) (fun v s' => Ex4 fun fz' D m' H' => A5 (v = .ref D) (Grow kp fz fz') (Rel G kp fz' env σ (up H' D m') s') (H' D = none) (Q m' H')) NoE s := by
  have hko : ∀ x, env.kindOf x = sc.names.lookup x := fun x => by unfold Env.kindOf; rw [ok.scope]
  obtain ⟨cl, e1, e2, e3⟩ := closureFor_ok (scope := scope) (env := env) fun x hx => by
    obtain ⟨c, v, q1, _⟩ := R.e.own x (by rw [hko]; exact compOk_free hc hx)
    exact ⟨c, q1⟩
  refine wpAny_comprehension_free (use := none) hcl (fold_no hs env) e1 (compOk_kind hc) (compOk_names hc) (wpAny_mono (h A kp fz env s g ok R) (fun x s1 h1 => wpAny_mono h1 (fun it s2 h2 => ?_) fun _ _ x => x) fun _ _ x => x)
  obtain ⟨fz1, H1, ds, I, fp, St, rfl, g1, W, self, R1, f1, f2, f3, st, q⟩ := h2
  refine comp_block L S hnew hv₀ hob hc hfree ⟨e2, e3⟩ W self g ok R1 f1 f2 f3 st q (PP := fun acc C r s' => compPost (model G.prog G.w) A NoE none _ acc C r s') fun D C fz' m' H' s' f g2 R2 hD c1 c2 c3 cL hn q2 => ?_
  obtain ⟨m, hm⟩ := id hn
  refine ⟨m, hm, fun h' hs' => ⟨fz', D, m', H', rfl, g1.trans g2, R2.sameBut c1 c2 c3 cL hn hs', hD, q2⟩⟩

theorem comp_used {A : Around} {kp fz : FM} {env : Env} {s : Shared} {e tgt iter t : Expr} {ifs : List Expr} {emit : Value → Env → Sem Unit} {scope : Scope} {pos : Pos} {m₀ : MO} {ob₀ : Obj} {Q : SM → HM → Prop} {newAcc : Sem Value}
    (hcl : clausesOf e = [⟨tgt, iter, ifs, 0⟩]) (L : LoopRule G e tgt ifs emit) (S : StartRule G e)
    (hnew : ∀ (s : Shared) (P : Value → Shared → Prop), P (.ref s.heap.objs.size) { s with heap := s.heap.push ob₀ } → wpAny (model G.prog G.w) A newAcc P NoE s) (hv₀ : ∀ fz, OV fz m₀ ob₀) (hob : ob₀.isFreed = false)
    (hc : compOk scope sc (tgtN tgt) = true) (hfree : freeOk scope σ = true) (hs : isSetE iter = false) (g : Good n A) (ok : EnvOk G sc env) (R : Rel G kp fz env σ H s)
    (h : CompT G n sc scope tgt iter ifs emit m₀ σ H fun m' H' => ∀ r, H' r = none → SA G n sc t (.ref r) σ (up H' r m') Q) :
    wpAny (model G.prog G.w) A (comprehension e scope env pos newAcc false (eval iter env) (some (assign t env))) (fun v s' => Ex3 fun fz' σ' H' => A3 (Grow kp fz fz') (Rel G kp fz' env σ' H' s') (Q σ' H')) NoE s := by
  have hko : ∀ x, env.kindOf x = sc.names.lookup x := fun x => by unfold Env.kindOf; rw [ok.scope]
  obtain ⟨cl, e1, e2, e3⟩ := closureFor_ok (scope := scope) (env := env) fun x hx => by
    obtain ⟨c, v, q1, _⟩ := R.e.own x (by rw [hko]; exact compOk_free hc hx)
    exact ⟨c, q1⟩
  refine wpAny_comprehension_free (use := some (assign t env)) hcl (fold_no hs env) e1 (compOk_kind hc) (compOk_names hc) (wpAny_mono (h A kp fz env s g ok R) (fun x s1 h1 => wpAny_mono h1 (fun it s2 h2 => ?_) fun _ _ x => x) fun _ _ x => x)
  obtain ⟨fz1, H1, ds, I, fp, St, rfl, g1, W, self, R1, f1, f2, f3, st, q⟩ := h2
  refine comp_block L S hnew hv₀ hob hc hfree ⟨e2, e3⟩ W self g ok R1 f1 f2 f3 st q (PP := fun acc C r s' => compPost (model G.prog G.w) A NoE (some (assign t env)) _ acc C r s') fun D C fz' m' H' s' f g2 R2 hD c1 c2 c3 cL hn q2 => ?_
  obtain ⟨m, hm⟩ := id hn
  obtain ⟨oC, es, ep, hoC, hoC2⟩ := id hm
  have R3 := R2.holdN c3 cL hoC hn
  refine (q2 D hD).run g ok R3 (by simp only [V]) fun s3 fz3 σ3 H3 g3 R4 q3 => ?_
  have gk : s3.heap.get? C = some oC := R4.h.kept _ _ (up_self ..)
  have hn3 : s3.heap.Ns C m := ⟨oC, es, ep, gk, hoC2⟩
  have hf3 : fz3 C = none := g3.none c2
  have hH3 : H3 C = none := by
    cases q : H3 C with
    | none => rfl
    | some m => have := (R4.h.heap _ _ q).choose_spec.2.2.1; rw [up_self] at this; cases this
  have R5 := R4.less (sub_up c1) R.h.base
  exact ⟨m, hn3, fun h' hs' => ⟨fz3, σ3, H3, (g1.trans g2).trans (g3.less (sub_up c1)), R5.sameBut c1 hf3 hH3 cL ⟨m, hn3⟩ hs', q3⟩⟩
end


section
variable {G : GC} {n : Nat} {sc : Scope} {σ : SM} {H : HM}

theorem Em.list {elt : Expr} {xs : List AV} {K : MO → HM → Prop} (hz : lineOk xs.length) (h : SE G n sc elt σ H fun d H' => K (.list (xs ++ [d])) H') : Em G n sc (emitL elt) σ H (.list xs) K := by
  intro A kp fz env s D g ok R hD
  obtain ⟨ob, ho, RD, hvD, hkD, hfD⟩ := R.holdH (r := D) (m := .list xs) (up_self ..)
  rw [del_up_none _ hD] at RD
  show wpAny _ A (eval elt env >>= fun x => call (.builtin "list.append") [.ref D, x] >>= fun _ => pure ()) _ _ _
  refine wpAny_bind (h.run g ok RD fun v s1 fz1 d H1 g1 R1 v1 q => ?_)
  have R1' := R1.unholdH g1 R.h.base hkD hfD hvD
  have hD1 : H1 D = none := by
    cases q : H1 D with
    | none => rfl
    | some m => have := (R1.h.heap _ _ q).choose_spec.2.2.1; rw [up_self] at this; cases this
  refine wpAny_bind (wpAny_mono ((op_append (G := G) (n := n) (xs := xs) (d := d) (r := D) (Q := fun d' H' => H' = up (up H1 D (.list xs)) D (.list (xs ++ [d]))) (up_self ..) hz rfl) A kp fz1 env σ s1 [.ref D, v] g ok.ok R1'
    (by simp only [VL, V]; exact ⟨_, _, rfl, rfl, _, _, rfl, v1, rfl⟩)) (fun v2 s2 p => ?_) fun _ _ x => x)
  obtain ⟨fz2, d2, H2, g2, R2, v2, rfl⟩ := p
  have e : up (up H1 D (.list xs)) D (.list (xs ++ [d])) = up H1 D (.list (xs ++ [d])) := by
    funext a; unfold up; split <;> rfl
  rw [e] at R2
  exact wpAny_pure ⟨fz2, _, H1, (g1.less (sub_up hkD)).trans g2, R2, hD1, q⟩

/-- a list comprehension -/
theorem SE.compL {elt tgt iter : Expr} {ifs : List Expr} {scope : Scope} {pos : Pos} {Q : AV → HM → Prop} (hc : (compOk scope sc (tgtN tgt) && freeOk scope σ && !isSetE iter) = true)
    (h : CompT G n sc scope tgt iter ifs (emitL elt) (.list []) σ H fun m H1 => ∀ D, H1 D = none → Q (.ref D) (up H1 D m)) : SE G n sc (.ListComp elt [⟨tgt, iter, ifs, 0⟩] scope pos) σ H Q := by
  intro A kp fz env s g ok R
  simp only [Bool.and_eq_true, Bool.not_eq_true'] at hc
  rw [eval_ListComp]
  refine wpAny_mono (comp_plain (newAcc := newList []) rfl loopRule_list startRule_list new_list OV.newList rfl hc.1.1 hc.1.2 hc.2 g ok R h) (fun v s' q => ?_) fun _ _ x => x
  obtain ⟨fz', D, m', H', rfl, g1, R1, hD, q⟩ := q
  exact ⟨fz', .ref D, _, g1, R1, by simp only [V], q D hD⟩

theorem eval_DictComp (k v gens scope pos) (env : Env) : eval (.DictComp k v gens scope pos) env =
    comprehension (.DictComp k v gens scope pos) scope env (firstIterPos gens pos) newDict (firstAsync gens) (firstIter gens env) := rfl
theorem SE.compD {k v tgt iter : Expr} {ifs : List Expr} {scope : Scope} {pos : Pos} {Q : AV → HM → Prop} (hc : (compOk scope sc (tgtN tgt) && freeOk scope σ && !isSetE iter) = true)
    (h : CompT G n sc scope tgt iter ifs (emitD k v) (.dict []) σ H fun m H1 => ∀ D, H1 D = none → Q (.ref D) (up H1 D m)) : SE G n sc (.DictComp k v [⟨tgt, iter, ifs, 0⟩] scope pos) σ H Q := by
  intro A kp fz env s g ok R
  simp only [Bool.and_eq_true, Bool.not_eq_true'] at hc
  rw [eval_DictComp]
  refine wpAny_mono (comp_plain (newAcc := newDict) rfl loopRule_dict startRule_dict new_dict OV.newDict rfl hc.1.1 hc.1.2 hc.2 g ok R h) (fun v s' q => ?_) fun _ _ x => x
  obtain ⟨fz', D, m', H', rfl, g1, R1, hD, q⟩ := q
  exact ⟨fz', .ref D, _, g1, R1, by simp only [V], q D hD⟩

/-- over a made list, held meanwhile -/
theorem SE.compLRef {elt tgt iter : Expr} {ifs : List Expr} {scope : Scope} {pos : Pos} {Q : AV → HM → Prop} (hc : (compOk scope sc (tgtN tgt) && freeOk scope σ && !isSetE iter) = true)
    (h : SE G n sc iter σ H fun d H1 => Ex2 fun r ds => A3 (d = .ref r) (H1 r = some (.list ds)) (CmpW G n (relab scope sc) tgt ifs (emitL elt) (freeOf scope σ) (fun m H2 => ∀ D, H2 D = none → D ≠ r → Q (.ref D) (up (up H2 r (.list ds)) D m)) ds (.list []) (del H1 r))) :
    SE G n sc (.ListComp elt [⟨tgt, iter, ifs, 0⟩] scope pos) σ H Q := by
  intro A kp fz env s g ok R
  simp only [Bool.and_eq_true, Bool.not_eq_true'] at hc
  obtain ⟨⟨hc, hfree⟩, hs⟩ := hc
  rw [eval_ListComp]
  have hko : ∀ x, env.kindOf x = sc.names.lookup x := fun x => by unfold Env.kindOf; rw [ok.scope]
  obtain ⟨cl, e1, e2, e3⟩ := closureFor_ok (scope := scope) (env := env) fun x hx => by
    obtain ⟨c, v, q1, _⟩ := R.e.own x (by rw [hko]; exact compOk_free hc hx)
    exact ⟨c, q1⟩
  refine wpAny_comprehension_free (use := none) rfl (fold_no hs env) e1 (compOk_kind hc) (compOk_names hc) (h.run g ok R fun v s1 fz1 d H1 g1 R1 v1 h1 => ?_)
  obtain ⟨r, ds, rfl, hr, h1⟩ := h1
  simp only [V] at v1; subst v1
  obtain ⟨ob, hg, R2, ⟨vs, k, rfl, hv⟩, hk, hf⟩ := R1.holdH hr
  refine it_list (tgt := tgt) g.handled R2 (.inl (up_self ..)) rfl rfl hv fun I s2 St fp _ W self R3 f1 f2 f3 st => ?_
  refine comp_block loopRule_list startRule_list new_list OV.newList rfl hc hfree ⟨e2, e3⟩ W self g ok R3 f1 f2 f3 st h1 (PP := fun acc C r s' => compPost (model G.prog G.w) A NoE none _ acc C r s') fun D C fz' m' H' s' f g2 R4 hD c1 c2 c3 cL hn q2 => ?_
  obtain ⟨m, hm⟩ := id hn
  have hDr : D ≠ r := by
    rintro rfl
    have := (R4.h.heap D m' (up_self ..)).choose_spec.2.2.1
    rw [up_self] at this; cases this
  refine ⟨m, hm, fun h' hs' => ?_⟩
  have R5 := (R4.sameBut c1 c2 c3 cL hn hs').unholdH (m := .list ds) g2 R.h.base hk hf ⟨vs, k, rfl, hv⟩
  have e : up (up H' D m') r (.list ds) = up (up H' r (.list ds)) D m' := by
    funext a; unfold up
    by_cases ha : a = r
    · subst ha; rw [if_pos rfl, if_neg (Ne.symm hDr), if_pos rfl]
    · simp [ha]
  rw [e] at R5
  exact ⟨fz', .ref D, _, g1.trans (g2.less (sub_up hk)), R5, by simp only [V], q2 D hD hDr⟩

/-- a comprehension put into a local name at once -/
theorem S1.assignCompL {elt tgt iter : Expr} {ifs : List Expr} {scope : Scope} {x : Str} {px cpos pos : Pos} {Q : AF → SM → HM → Prop} (hc : (compOk scope sc (tgtN tgt) && freeOk scope σ && !isSetE iter) = true)
    (hx : (sc.kind == .function && sc.names.lookup x == some .local && px.line == cpos.line && !(scope.names.any fun p => p.1 == x && (p.2 == .local || p.2 == .cell))) = true)
    (h : CompT G n sc scope tgt iter ifs (emitL elt) (.list []) σ H fun m H1 => ∀ D, H1 D = none → Q .next (sup σ x (.ref D)) (up H1 D m)) : S1 G n sc (.Assign [.Name x px] (.ListComp elt [⟨tgt, iter, ifs, 0⟩] scope cpos) pos) σ H Q := by
  intro A kp fz env s g ok R
  simp only [Bool.and_eq_true, Bool.not_eq_true'] at hc
  obtain ⟨⟨hc, hfree⟩, hs⟩ := hc
  have hko : env.kindOf x = sc.names.lookup x := by unfold Env.kindOf; rw [ok.scope]
  have hsw : swapsWith (.ListComp elt [⟨tgt, iter, ifs, 0⟩] scope cpos) (some (.Name x px)) pos.line env = pure true := by
    show (pure (env.blockKind == .function && env.kindOf x == some .local && px.line == cpos.line && !(scope.names.any fun (n, k) => n == x && (k == .local || k == .cell))) : Sem Bool) = pure true
    have hb : env.blockKind = sc.kind := by
      have hk := ok.kind
      unfold Env.blockKind; rw [ok.scope, hk]; rfl
    rw [hb, hko]
    exact congrArg pure hx
  have hxl : sc.names.lookup x = some .local := by
    simp only [Bool.and_eq_true] at hx; exact eq_of_beq hx.1.1.2
  rw [exec_Assign_Name_used _ _ _ _ hsw]
  refine wpAny_bind (wpAny_standAt (wpAny_bind ?_))
  show wpAny _ A (do let _ ← comprehension (.ListComp elt [⟨tgt, iter, ifs, 0⟩] scope cpos) scope env _ (newList []) false (eval iter env) (some (PySem.assign (.Name x px) env))) _ _ s
  have h2 : CompT G n sc scope tgt iter ifs (emitL elt) (.list []) σ H fun m' H' => ∀ r, H' r = none → SA G n sc (.Name x px) (.ref r) σ (up H' r m') fun σ2 H2 => Q .next σ2 H2 := by
    have mono : ∀ {Q Q' : MO → HM → Prop}, (∀ m H, Q m H → Q' m H) → ∀ (ds : List AV) (m : MO) (H : HM), CmpW G n (relab scope sc) tgt ifs (emitL elt) (freeOf scope σ) Q ds m H → CmpW G n (relab scope sc) tgt ifs (emitL elt) (freeOf scope σ) Q' ds m H := by
      intro Q Q' k ds
      induction ds with
      | nil => intro m H q; exact k _ _ q
      | cons d ds ih =>
        intro m H q
        obtain ⟨σ1, h1, h2⟩ := q
        refine ⟨σ1, h1, ?_⟩
        have stm : ∀ {ifs : List Expr} {K K' : Bool → HM → Prop} {σ H}, (∀ b H, K b H → K' b H) → STs G n (relab scope sc) ifs σ H K → STs G n (relab scope sc) ifs σ H K' := by
          intro ifs K K' σ H kk hh
          match ifs, hh with
          | [], hh => exact kk _ _ hh
          | [c], hh =>
            intro A kp fz env s g ok R
            exact wpAny_mono (hh A kp fz env s g ok R) (fun b s' ⟨a1, a2, a3, a4, a5⟩ => ⟨a1, a2, a3, a4, kk _ _ a5⟩) fun _ _ x => x
        refine stm (fun b H hb => ⟨fun e => ?_, fun e => ih _ _ (hb.2 e)⟩) h2
        intro A kp fz env s D g ok R hD
        exact wpAny_mono (hb.1 e A kp fz env s D g ok R hD) (fun _ s' ⟨a1, a2, a3, a4, a5, a6, a7⟩ => ⟨a1, a2, a3, a4, a5, a6, ih _ _ a7⟩) fun _ _ x => x
    intro A kp fz env s g ok R
    refine wpAny_mono (h A kp fz env s g ok R) (fun x s1 h1 => wpAny_mono h1 (fun it s2 h2 => ?_) fun _ _ x => x) fun _ _ x => x
    obtain ⟨fz1, H1, ds, I, fp, St, rfl, g1, W, self, R1, f1, f2, f3, st, q⟩ := h2
    exact ⟨fz1, H1, ds, I, fp, St, rfl, g1, W, self, R1, f1, f2, f3, st, mono (fun m H q r hr => SA.name (by rw [hxl]; rfl) (q r hr)) _ _ _ q⟩
  refine wpAny_bind (wpAny_mono (comp_used (newAcc := newList []) rfl loopRule_list startRule_list new_list OV.newList rfl hc hfree hs g ok R h2) (fun v s' q => ?_) fun _ _ x => x)
  obtain ⟨fz', σ', H', g1, R1, q⟩ := q
  exact wpAny_pure (wpAny_pure ⟨fz', .next, σ', H', g1, R1, rfl, q⟩)

/-- otherwise the list is made, and then put -/
theorem S1.assignCompC {t : Expr} {elt tgt iter : Expr} {ifs : List Expr} {scope : Scope} {cpos pos : Pos} {Q : AF → SM → HM → Prop} (ht : ∃ x px, t = .Name x px ∧ (sc.names.lookup x == some .local) = false)
    (h : SE G n sc (.ListComp elt [⟨tgt, iter, ifs, 0⟩] scope cpos) σ H fun d H1 => SA G n sc t d σ H1 fun σ2 H2 => Q .next σ2 H2) : S1 G n sc (.Assign [t] (.ListComp elt [⟨tgt, iter, ifs, 0⟩] scope cpos) pos) σ H Q := by
  intro A kp fz env s g ok R
  obtain ⟨x, px, rfl, hx⟩ := ht
  have hko : env.kindOf x = sc.names.lookup x := by unfold Env.kindOf; rw [ok.scope]
  refine wpAny_Assign_stores (h.run g ok R fun v s1 fz1 d H1 g1 R1 v1 h1 => ?_) ?_ ?_
  · exact h1.run g ok R1 v1 fun s2 fz2 σ2 H2 g2 R2 q => ⟨fz2, .next, σ2, H2, g1.trans g2, R2, rfl, q⟩
  · show (pure (env.blockKind == .function && env.kindOf x == some .local && px.line == cpos.line && !(scope.names.any fun (n, k) => n == x && (k == .local || k == .cell))) : Sem Bool) = pure false
    rw [hko, hx]; simp
  · rfl

/-! what is run over -/
theorem SIt.range {e : Expr} {p pos : Pos} {tgt : Expr} {Q : List AV → HM → Prop} {f : Str} (hf : f = ("range" : Str)) (hx : sc.names.lookup f = some .globalImplicit) (hs : isStar e = false)
    (h : SE G n sc e σ H fun d H1 => Ex1 fun (N : Nat) => A3 (d = .int N) (lineOk N) (Q ((List.range N).map fun (i : Nat) => AV.int (i : Int)) H1)) : SIt G n sc (.Call (.Name f p) [e] [] pos) tgt σ H Q := by
  subst hf
  intro A kp fz env s g ok R
  refine wpAny_Call_Name_kw (name_builtin ok R hx (by decide) (by decide +kernel : bootBuiltins "range" = some (.type "range")) ?_ rfl (by decide))
  have hargs : SEs G n sc [e] [] σ H fun ds H1 => Ex1 fun (N : Nat) => A3 (ds = [.int N]) (lineOk N) (Q ((List.range N).map fun (i : Nat) => AV.int (i : Int)) H1) := by
    refine ⟨hs, h.mono ?_⟩
    rintro d H1 ⟨N, rfl, h1, h2⟩
    exact ⟨N, rfl, h1, h2⟩
  refine PySem.callWith_type (noStar_all _ _ _ (by simp [hs])) (hargs.args g ok R fun vs s1 fz1 ds H1 g1 R1 v1 q => ?_)
  obtain ⟨N, rfl, hz, q⟩ := q
  obtain ⟨v, rfl, hv⟩ := v1.single
  simp only [V] at hv
  obtain ⟨t, rfl⟩ := hv
  have e62 : (2 : Int) ^ 62 = 4611686018427387904 := by decide
  unfold lineOk at hz
  refine call_range_1 ?_
  refine wpAny_pyIter_range (IsRange.new ..) (small_one (by decide) (by decide) (by rw [e62]; lia) (by rw [e62]; lia)) ?_
  have hsz : Builtin.Range.rangeSize 0 (N : Int) 1 = (N : Int) := by rw [rangeSize_one]; split <;> lia
  have hI := Heap.get?_none_of_le (h := s1.heap) (a := s1.heap.objs.size + 1) (Nat.le_succ _)
  obtain ⟨f1, f2, f3⟩ := R1.h.fresh hI
  generalize hh : (s1.heap.push { cls := .type "range", data := .fields #[.int 0 s1.toks, .int N t, .int 1 (s1.toks + 1)] }) = h₁
  have hs1 : h₁.objs.size = s1.heap.objs.size + 1 := by rw [← hh, Heap.size_push]
  have W := Walks.range (prog := G.prog) (w := G.w) (A := A) g.handled h₁.objs.size 0 1 N
  rw [← hs1] at f1 f2 f3
  refine ⟨fz1, H1, _, h₁.objs.size, [], _, rfl, g1, It.ofWalks (fp := []) W (by simp) (fun b hb => .inl (by simpa using hb)) (fun i h st => ⟨_, _, "range_iterator", st, rfl, rfl, by decide⟩) (fun b hb => by cases hb) (fun i d v fz' hd _ hp => ?_),
    fun i s' Q st hQ => W.self i s' Q NoE st hQ, ?_, f1, f2, f3, ?_, q⟩
  · obtain ⟨t, rfl⟩ := hp
    rw [List.getElem?_map] at hd
    cases hr : (List.range N)[i]? with
    | none => rw [hr] at hd; cases hd
    | some j =>
      rw [hr] at hd
      have hj : j = i := by
        have := List.getElem?_eq_some_iff.mp hr
        obtain ⟨hl, e⟩ := this
        simpa using e.symm
      subst hj
      cases hd
      simp only [V]
      exact ⟨t, by simp⟩
  · refine R1.keeps (tk := s1.toks + 1 + 1) fun b o e => Heap.get?_push_of_some _ ?_
    rw [← hh]; exact Heap.get?_push_of_some _ e
  · have e1 : (0 + ((0 : Nat) : Int) * 1) = 0 := by simp
    have e2 : ((N : Int) - ((0 : Nat) : Int)) = Builtin.Range.rangeSize 0 N 1 := by rw [hsz]; simp
    show IsRangeIter _ _ (0 + ((0 : Nat) : Int) * 1) ((N : Int) - ((0 : Nat) : Int)) 1
    rw [e1, e2]
    exact Heap.get?_push_size _ rfl

theorem SIt.reversed {e : Expr} {p pos : Pos} {tgt : Expr} {Q : List AV → HM → Prop} {f : Str} (hf : f = ("reversed" : Str)) (hx : sc.names.lookup f = some .globalImplicit) (hs : isStar e = false)
    (h : SE G n sc e σ H fun d H1 => Ex1 fun ds => A2 (d = .lst ds) (Q ds.reverse H1)) : SIt G n sc (.Call (.Name f p) [e] [] pos) tgt σ H Q := by
  subst hf
  intro A kp fz env s g ok R
  refine wpAny_Call_Name_kw (name_builtin ok R hx (by decide) (by decide +kernel : bootBuiltins "reversed" = some (.type "reversed")) ?_ rfl (by decide))
  have hargs : SEs G n sc [e] [] σ H fun ds H1 => Ex1 fun l => A2 (ds = [.lst l]) (Q l.reverse H1) := by
    refine ⟨hs, h.mono ?_⟩
    rintro d H1 ⟨N, rfl, h1⟩
    exact ⟨N, rfl, h1⟩
  refine PySem.callWith_type (noStar_all _ _ _ (by simp [hs])) (hargs.args g ok R fun vs s1 fz1 ds H1 g1 R1 v1 q => ?_)
  obtain ⟨l, rfl, q⟩ := q
  obtain ⟨v, rfl, hv⟩ := v1.single
  simp only [V] at hv
  obtain ⟨a, ws, o, k, rfl, ho, hc, hdt, hdat, hws⟩ := hv
  have hg := R1.h.froz _ _ ho
  have hL : s1.heap.IsList a (List.toArray ws) := ⟨o, hg, hc, k, hdat⟩
  have hne : a ≠ s1.heap.objs.size := Nat.ne_of_lt (Heap.lt_size hg)
  have hnone : s1.heap.get? s1.heap.objs.size = none := Heap.get?_none_of_le (Nat.le_refl _)
  obtain ⟨f1, f2, f3⟩ := R1.h.fresh hnone
  refine call_reversed_list hL ?_
  have W := Walks.listRev (prog := G.prog) (w := G.w) (A := A) g.handled s1.heap.objs.size a hne (List.toArray ws)
  have st0 : (0 ≤ (List.toArray ws).size ∧ (s1.heap.push (revObj a (((List.toArray ws).size : Int) - 1))).IsRevIter s1.heap.objs.size a (((List.toArray ws).size : Int) - 1 - ((0 : Nat) : Int)) ∧ (s1.heap.push (revObj a (((List.toArray ws).size : Int) - 1))).IsList a (List.toArray ws)) :=
    ⟨Nat.zero_le _, ⟨_, Heap.get?_push_size _ rfl, rfl, by simp [revObj]⟩, hL.push _⟩
  refine W.self 0 _ _ NoE st0 ?_
  refine ⟨fz1, H1, l.reverse, s1.heap.objs.size, [a], _, rfl, g1, It.ofWalks W (by simp [hws.length]) (fun b hb => by simpa using hb) (fun i h st => ?_) (fun b hb => ?_) (fun i d v fz' hd hs' hp => ?_),
    fun i s' Q st hQ => W.self i s' Q NoE st hQ, R1.keeps (tk := s1.toks) fun b o e => Heap.get?_push_of_some _ e, f1, f2, f3, st0, q⟩
  · obtain ⟨_, ⟨o, e1, e2, e3⟩, _⟩ := st
    exact ⟨o, _, "list_reverseiterator", e1, e2, e3, by decide⟩
  · rw [List.mem_singleton] at hb; subst hb; exact ⟨o, .inr ho⟩
  · have hi : i < l.length := by simpa using (List.getElem?_eq_some_iff.mp hd).1
    rw [List.getElem?_reverse hi] at hd
    obtain ⟨v', e1, e2⟩ := hws.get hd
    have : v' = v := Option.some.inj (e1.symm.trans (by rw [← hws.length]; simpa using hp))
    subst this; exact e2.mono hs'
end


/-! dicts from int to int -/
noncomputable def KV : List (Int × Int) → List (Int × Value) → Prop
  | [], k => k = []
  | kv :: r, k => ∃ v r', k = (kv.1, v) :: r' ∧ (∃ t, v = .int kv.2 t) ∧ KV r r'
noncomputable def dset (kvs : List (Int × Int)) (k v : Int) : List (Int × Int) :=
  if kvs.any (fun kv => decide (kv.1 = k)) then kvs.map (fun kv => if kv.1 = k then (kv.1, v) else kv) else kvs ++ [(k, v)]
noncomputable def dget (kvs : List (Int × Int)) (k : Int) : Option Int := (kvs.find? fun kv => kv.1 = k).map (·.2)

theorem KV.keys : ∀ {kvs : List (Int × Int)} {k : List (Int × Value)}, KV kvs k → k.map (·.1) = kvs.map (·.1)
  | [], _, h => by cases h; rfl
  | kv :: r, _, ⟨v, r', e, _, h⟩ => by subst e; simp [KV.keys h]
theorem KV.length {kvs : List (Int × Int)} {k : List (Int × Value)} (h : KV kvs k) : k.length = kvs.length := by simpa using congrArg List.length h.keys
theorem KV.get : ∀ {kvs : List (Int × Int)} {k : List (Int × Value)} {i : Nat} {p : Int × Value}, KV kvs k → k[i]? = some p → ∃ q, kvs[i]? = some q ∧ p.1 = q.1 ∧ ∃ t, p.2 = .int q.2 t
  | [], _, i, p, h, e => by cases h; simp at e
  | kv :: r, _, 0, p, ⟨v, r', e1, e2, h⟩, e => by subst e1; simp at e; subst e; exact ⟨kv, rfl, rfl, e2⟩
  | kv :: r, _, i + 1, p, ⟨v, r', e1, _, h⟩, e => by subst e1; simpa using h.get (by simpa using e)
theorem KV.valueAt : ∀ {kvs : List (Int × Int)} {k : List (Int × Value)} (x : Int), KV kvs k → match dget kvs x with
    | some v => ∃ t, PySem.valueAt k x = some (.int v t)
    | none => PySem.valueAt k x = none
  | [], _, x, h => by cases h; rfl
  | kv :: r, _, x, ⟨v, r', e1, ⟨t, e2⟩, h⟩ => by
    subst e1; subst e2
    have ih := h.valueAt x
    by_cases hx : kv.1 = x
    · simp [dget, PySem.valueAt, hx]
    · have e1 : dget (kv :: r) x = dget r x := by simp [dget, List.find?_cons, hx]
      have e2 : PySem.valueAt ((kv.1, Value.int kv.2 t) :: r') x = PySem.valueAt r' x := by simp [PySem.valueAt, List.find?_cons, hx]
      rw [e1, e2]; exact ih
theorem KV.map : ∀ {kvs : List (Int × Int)} {k : List (Int × Value)} (x v : Int) (t : Tok), KV kvs k → KV (kvs.map fun kv => if kv.1 = x then (kv.1, v) else kv) (k.map fun kv => if kv.1 = x then (kv.1, .int v t) else kv)
  | [], _, x, v, t, h => by cases h; rfl
  | kv :: r, _, x, v, t, ⟨w, r', e1, e2, h⟩ => by
    subst e1
    have ih := h.map x v t
    simp only [List.map_cons]
    by_cases hx : kv.1 = x
    · rw [if_pos hx, if_pos hx]; exact ⟨_, _, rfl, ⟨t, rfl⟩, ih⟩
    · rw [if_neg hx, if_neg hx]; exact ⟨_, _, rfl, e2, ih⟩
theorem KV.append : ∀ {kvs : List (Int × Int)} {k : List (Int × Value)} (x v : Int) (t : Tok), KV kvs k → KV (kvs ++ [(x, v)]) (k ++ [(x, .int v t)])
  | [], _, x, v, t, h => by cases h; exact ⟨_, _, rfl, ⟨t, rfl⟩, rfl⟩
  | kv :: r, _, x, v, t, ⟨w, r', e1, e2, h⟩ => by subst e1; exact ⟨_, _, rfl, e2, h.append x v t⟩
theorem KV.any {kvs : List (Int × Int)} {k : List (Int × Value)} (x : Int) (h : KV kvs k) : (k.any fun kv => decide (kv.1 = x)) = kvs.any fun kv => decide (kv.1 = x) := by
  have := h.keys
  have e1 : ∀ {α : Type} (l : List (Int × α)), (l.any fun kv => decide (kv.1 = x)) = (l.map (·.1)).any fun y => decide (y = x) := fun l => by rw [List.any_map]; rfl
  rw [e1, e1, this]
theorem KV.stored {kvs : List (Int × Int)} {k : List (Int × Value)} (x v : Int) (t : Tok) (h : KV kvs k) : KV (dset kvs x v) (PySem.stored k x (.int v t)) := by
  unfold dset PySem.stored
  rw [h.any x]
  split
  · exact h.map x v t
  · exact h.append x v t

section
variable {prog : Program} {w : World}
theorem DI.at {h : Heap} {a : Addr} {o : Obj} {kvs : List (Int × Int)} (ho : h.get? a = some o) (d : DI kvs o) : ∃ k ep, Heap.DictAt (intKind prog w) h a k ep ∧ KV kvs k := by
  obtain ⟨h1, es, ep, h2, h3, h4⟩ := d
  have main : ∀ (kvs : List (Int × Int)) (es : List DictEntry), DL kvs es → ∃ k, (∀ e ∈ es, ∃ x, (intKind prog w).is x e.key = true ∧ e.hash = (intKind prog w).hash x) ∧ Pairs (intKind prog w) es k ∧ KV kvs k := by
    intro kvs
    induction kvs with
    | nil => intro es h; cases h; exact ⟨[], (fun _ h => nomatch h), Pairs.nil, rfl⟩
    | cons kv r ih =>
      intro es h
      obtain ⟨e, es', rfl, ⟨⟨t, q1⟩, q2, u, q3⟩, h'⟩ := h
      obtain ⟨k, k1, k2, k3⟩ := ih es' h'
      have hkey : (intKind prog w).is kv.1 e.key = true := by rw [q1]; simp [intKind, Value.isInt]
      refine ⟨(kv.1, e.val) :: k, fun e' he => ?_, Pairs.cons hkey rfl k2, ⟨e.val, k, rfl, ⟨u, q3⟩, k3⟩⟩
      rcases List.mem_cons.mp he with rfl | he
      · exact ⟨kv.1, hkey, q2⟩
      · exact k1 _ he
  obtain ⟨k, k1, k2, k3⟩ := main kvs es h3
  refine ⟨k, ep, ⟨o, List.toArray es, ho, h1, h2, fun e he => k1 e (by simpa using he), by simpa using k2, by rw [k3.keys]; exact h4⟩, k3⟩
theorem DI.of {h : Heap} {a : Addr} {k : List (Int × Value)} {kvs : List (Int × Int)} (d : h.DictOf (intKind prog w) a k) (hk : KV kvs k) : ∃ o, h.get? a = some o ∧ DI kvs o := by
  obtain ⟨o, es, ep, ho, hc, hd, h1, h2, h3⟩ := d
  refine ⟨o, ho, hc, es.toList, ep, by simpa using hd, ?_, by rw [← hk.keys]; exact h3⟩
  have hk1 : ∀ e ∈ es.toList, ∃ x, (intKind prog w).is x e.key = true ∧ e.hash = (intKind prog w).hash x := fun e he => h1 e (by simpa using he)
  revert hk1 h2
  generalize es.toList = l
  intro h2 hk1
  clear h3 hd h1 ho
  induction h2 generalizing kvs with
  | nil =>
    cases kvs with
    | nil => rfl
    | cons kv r => obtain ⟨_, _, e, _⟩ := hk; cases e
  | @cons e kv' es' k' q1 q2 q3 ih =>
    cases kvs with
    | nil => cases hk
    | cons kv r =>
      obtain ⟨v, r', e1, ⟨t, e2⟩, e3⟩ := hk
      cases e1
      obtain ⟨x, x1, x2⟩ := hk1 e (.head _)
      obtain ⟨t1, ht1⟩ := Value.isInt_shape q1
      have hx : x = kv.1 := (intKind prog w).inj _ _ _ x1 q1
      subst hx
      exact ⟨e, es', rfl, ⟨⟨t1, ht1⟩, x2, t, by rw [q2]; exact e2⟩, ih e3 fun e' he => hk1 e' (.tail _ he)⟩
end

section
variable {G : GC} {n : Nat} {sc : Scope} {σ : SM} {H : HM}

theorem SE.dict0 {pos : Pos} {Q : AV → HM → Prop} (q : ∀ r, H r = none → Q (.ref r) (up H r (.dict []))) : SE G n sc (.Dict [] [] pos) σ H Q := by
  intro A kp fz env s g ok R
  refine wpAny_Dict_empty ?_
  have hn : s.heap.get? s.heap.objs.size = none := Heap.get?_none_of_le (Nat.le_refl _)
  have R2 := R.newH (tk := s.toks) (h' := s.heap.push { cls := .type "dict", data := .dict #[] }) (ob := { cls := .type "dict", data := .dict #[] }) (m := .dict [])
    hn (fun b o e => Heap.get?_push_of_some _ e) (Heap.get?_push_size _ rfl) (OV.newDict fz)
  exact ⟨fz, .ref s.heap.objs.size, _, .refl .., R2, by simp only [V], q _ (R.h.fresh hn).2.2⟩
theorem SE.leaveD {e : Expr} {Q : AV → HM → Prop} (h : SE G n sc e σ H fun d H1 => Ex2 fun r kvs => A3 (d = .ref r) (H1 r = some (.dict kvs)) (Q (.dct kvs) (del H1 r))) : SE G n sc e σ H Q := by
  intro A kp fz env s g ok R
  refine h.run g ok R fun v s1 fz1 d H1 g1 R1 v1 h1 => ?_
  obtain ⟨r, kvs, rfl, hr, q⟩ := h1
  obtain ⟨ob, g2, R2, v2⟩ := R1.freeze hr
  simp only [V] at v1
  obtain ⟨o, ho⟩ := Option.isSome_iff_exists.mp ok.ok.sys
  refine ⟨_, .dct kvs, _, g1.trans g2, R2, ?_, q⟩
  simp only [V]
  exact ⟨r, ob, v1, up_self .., v2, R1.h.ne_base hr ho⟩

theorem dne {d : Addr} (h : d ≠ sysModules) : (d == sysModules) = false := by simpa using h

theorem op_dget {d : AV} {kvs : List (Int × Int)} {k v : Int} {Q : AV → HM → Prop} (hd : DctOf H d kvs) (hv : dget kvs k = some v) (q : Q (.int v) H) : SV2 G n getItem d (.int k) H Q := by
  intro A kp fz env σ s va vb g ok R ha hb
  simp only [V] at hb
  obtain ⟨t, rfl⟩ := hb
  obtain ⟨a, o, rfl, ho, hdi, hne⟩ := hd.at ok R.h ha
  obtain ⟨kk, ep, hat, hkv⟩ := hdi.at (prog := G.prog) (w := G.w) ho
  have h1 := hkv.valueAt k
  rw [hv] at h1
  obtain ⟨t', h1⟩ := h1
  exact wpAny_getItem_of (knd := intKind G.prog G.w) (k := k) (by simp [intKind, Value.isInt]) hat.dictOf.mapOf h1 (PV.now (R.tok (tk := s.toks + 1)) (V.anyInt _ _ _) q)
theorem op_din {d : AV} {kvs : List (Int × Int)} {k : Int} {Q : AV → HM → Prop} (hd : DctOf H d kvs) (q : Q (.bool (dget kvs k).isSome) H) : SV2 G n (compareOp .In) (.int k) d H Q := by
  intro A kp fz env σ s va vb g ok R ha hb
  simp only [V] at ha
  obtain ⟨t, rfl⟩ := ha
  obtain ⟨a, o, rfl, ho, hdi, hne⟩ := hd.at ok R.h hb
  obtain ⟨kk, ep, hat, hkv⟩ := hdi.at (prog := G.prog) (w := G.w) ho
  have h1 := hkv.valueAt k
  have e : (PySem.valueAt kk k).isSome = (dget kvs k).isSome := by
    cases hq : dget kvs k with
    | none => rw [hq] at h1; simp only at h1; rw [h1]; rfl
    | some v => rw [hq] at h1; obtain ⟨t', h1⟩ := h1; rw [h1]; rfl
  refine wpAny_in_of (knd := intKind G.prog G.w) (k := k) (by simp [intKind, Value.isInt]) (dne hne) hat.dictOf.mapOf ?_
  rw [e]
  exact PV.now (R.tok (tk := s.toks + 1)) (V.anyBool _ _) q
theorem op_dlen {d : AV} {kvs : List (Int × Int)} {Q : AV → HM → Prop} (hd : DctOf H d kvs) (hz : lineOk kvs.length) (q : Q (.int kvs.length) H) : SVL G n (fun vs => call (.builtin "len") vs) [d] H Q := by
  intro A kp fz env σ s vs g ok R hv
  obtain ⟨x, rfl, hx⟩ := hv.single
  obtain ⟨a, o, rfl, ho, hdi, hne⟩ := hd.at ok R.h hx
  obtain ⟨kk, ep, hat, hkv⟩ := hdi.at (prog := G.prog) (w := G.w) ho
  have e : (2 : Int) ^ 63 = 9223372036854775808 := by decide
  unfold lineOk at hz
  refine call_len_dict (dne hne) hat.dictOf (by rw [hkv.length, e]; lia) ?_
  rw [hkv.length]
  exact PV.now (R.tok (tk := s.toks + 1 + 1)) (V.anyInt _ _ _) q

/-- a dict of the call's own is set at a key -/
theorem set_dict {A : Around} {kp fz : FM} {env : Env} {s : Shared} {r : Addr} {kvs : List (Int × Int)} {k v : Int} {t u : Tok} {P : Unit → Shared → Prop} (R : Rel G kp fz env σ H s) (hr : H r = some (.dict kvs)) (hz : lineOk kvs.length)
    (q : ∀ h' tk, Rel G kp fz env σ (up H r (.dict (dset kvs k v))) { s with heap := h', toks := tk } → P () { s with heap := h', toks := tk }) : wpAny (model G.prog G.w) A (setItem (.ref r) (.int k t) (.int v u)) P NoE s := by
  obtain ⟨ob, h1, h2, _⟩ := R.h.heap _ _ hr
  obtain ⟨kk, ep, hat, hkv⟩ := DI.at (prog := G.prog) (w := G.w) h1 h2
  refine wpAny_setItem_pairs (knd := intKind G.prog G.w) (k := k) (by simp [intKind, Value.isInt]) hat.dictOf (fun h' hm' hs' => ?_) (by rw [hkv.length]; exact hz.le)
  obtain ⟨ob', ho', hd'⟩ := DI.of hm' (hkv.stored k v u)
  exact q _ _ (R.setH hr (fun b o hb e => (hs'.2 b hb).trans e) ho' hd')
theorem dictSet_dict {A : Around} {kp fz : FM} {env : Env} {s : Shared} {r : Addr} {kvs : List (Int × Int)} {k v : Int} {t u : Tok} {P : Unit → Shared → Prop} (R : Rel G kp fz env σ H s) (hr : H r = some (.dict kvs)) (hz : lineOk kvs.length)
    (q : ∀ h' tk, Rel G kp fz env σ (up H r (.dict (dset kvs k v))) { s with heap := h', toks := tk } → P () { s with heap := h', toks := tk }) : wpAny (model G.prog G.w) A (dictSet r (.int k t) (.int v u)) P NoE s := by
  obtain ⟨ob, h1, h2, _⟩ := R.h.heap _ _ hr
  obtain ⟨kk, ep, hat, hkv⟩ := DI.at (prog := G.prog) (w := G.w) h1 h2
  refine wpAny_dictSet_pairs (knd := intKind G.prog G.w) (k := k) (by simp [intKind, Value.isInt]) hat.dictOf (fun h' hm' hs' => ?_) (by rw [hkv.length]; exact hz.le)
  obtain ⟨ob', ho', hd'⟩ := DI.of hm' (hkv.stored k v u)
  exact q _ _ (R.setH hr (fun b o hb e => (hs'.2 b hb).trans e) ho' hd')

theorem S1.augD {o i value : Expr} {p pos : Pos} {Q : AF → SM → HM → Prop} (hi : ∀ ov iv new, augStore i ov iv new = (do holding [new, ov, iv] (setItem ov iv new); release [new, ov, iv] []; pure .next))
    (h : SE G n sc o σ H fun d H1 => SE G n sc i σ H1 fun di H2 => Ex4 fun r kvs k v => A6 (d = .ref r) (H2 r = some (.dict kvs)) (di = .int k) (dget kvs k = some v) (lineOk kvs.length) (SE G n sc value σ H2 fun dv H3 => Ex1 fun u => A3 (dv = .int u) (H3 = H2) (Q .next σ (up H2 r (.dict (dset kvs k (v + u))))))) :
    S1 G n sc (.AugAssign (.Subscript o i p) .Add value pos) σ H Q := by
  intro A kp fz env s g ok R
  refine wpAny_AugAssign_SubscriptAny (h.run g ok R fun vo s1 fz1 d H1 g1 R1 v1 h1 => h1.run g ok R1 fun vi s2 fz2 di H2 g2 R2 v2 h2 => ?_) hi
  obtain ⟨r, kvs, k, v, rfl, hr, rfl, hv, hz, h3⟩ := h2
  refine wpAny_mono ((op_dget (G := G) (n := n) (Q := fun d H' => d = .int v ∧ H' = H2) (.inr ⟨r, rfl, hr⟩) hv ⟨rfl, rfl⟩) A kp fz2 env σ s2 vo vi g ok.ok R2 (v1.mono g2.1) v2) (fun old s3 p => ?_) fun _ _ x => x
  obtain ⟨fz3, d3, H3, g3, R3, v3, rfl, rfl⟩ := p
  refine h3.run g ok R3 fun vv s4 fz4 dv H4 g4 R4 v4 h4 => ?_
  obtain ⟨u, rfl, rfl, q⟩ := h4
  refine wpAny_mono ((SV2.iadd (G := G) (n := n) (H := H4) (i := v) (j := u) (Q := fun d H' => d = .int (v + u) ∧ H' = H4) ⟨rfl, rfl⟩) A kp fz4 env σ s4 old vv g ok.ok R4 (v3.mono g4.1) v4) (fun nw s5 p => ?_) fun _ _ x => x
  obtain ⟨fz5, d5, H5, g5, R5, v5, rfl, rfl⟩ := p
  simp only [V] at v1 v2 v5
  obtain ⟨t2, rfl⟩ := v2
  obtain ⟨t5, rfl⟩ := v5
  subst v1
  exact set_dict R5 hr hz fun h' tk R6 => ⟨fz5, .next, σ, _, (((g1.trans g2).trans g3).trans g4).trans g5, R6, rfl, q⟩

theorem Em.dict {k v : Expr} {kvs : List (Int × Int)} {K : MO → HM → Prop} (hz : lineOk kvs.length) (h : SE G n sc k σ H fun d H1 => Ex1 fun i => A2 (d = .int i) (SE G n sc v σ H1 fun d2 H2 => Ex1 fun j => A2 (d2 = .int j) (K (.dict (dset kvs i j)) H2))) :
    Em G n sc (emitD k v) σ H (.dict kvs) K := by
  intro A kp fz env s D g ok R hD
  obtain ⟨ob, ho, RD, hvD, hkD, hfD⟩ := R.holdH (r := D) (m := .dict kvs) (up_self ..)
  rw [del_up_none _ hD] at RD
  unfold emitD
  refine wpAny_bind (h.run g ok RD fun va s1 fz1 d H1 g1 R1 v1 h1 => ?_)
  obtain ⟨i, rfl, h1⟩ := h1
  refine wpAny_bind (wpAny_holding (h1.run g ok R1 fun vb s2 fz2 d2 H2 g2 R2 v2 h2 => ?_))
  obtain ⟨j, rfl, q⟩ := h2
  have g12 := g1.trans g2
  have R2' := R2.unholdH g12 R.h.base hkD hfD hvD
  have hD2 : H2 D = none := by
    cases q : H2 D with
    | none => rfl
    | some m => have := (R2.h.heap _ _ q).choose_spec.2.2.1; rw [up_self] at this; cases this
  have w1 := v1.mono g2.1
  simp only [V] at w1 v2
  obtain ⟨t1, rfl⟩ := w1
  obtain ⟨t2, rfl⟩ := v2
  refine wpAny_bind (wpAny_standAt (wpAny_holding (dictSet_dict R2' (up_self ..) hz fun h' tk R3 => ?_)))
  have e : up (up H2 D (.dict kvs)) D (.dict (dset kvs i j)) = up H2 D (.dict (dset kvs i j)) := by
    funext a; unfold up; split <;> rfl
  rw [e] at R3
  exact ⟨fz2, _, H2, g12.less (sub_up hkD), R3, hD2, q⟩

/-! runs over values and items -/
theorem SE.meth_run {o : Expr} {name : Str} {apos pos : Pos} {T id : String} {K : AV → HM → Prop} (pa : PlainAttrs T) (slot : Slot T name id) (hty : typeOf (.builtin id) = pure (.type "method_descriptor"))
    (h : SE G n sc o σ H fun d H1 => tyOf H1 d = some T ∧ K d H1) {A : Around} {kp fz : FM} {env : Env} {s : Shared} (g : Good n A) (ok : EnvOk G sc env) (R : Rel G kp fz env σ H s) {P : Value → Shared → Prop}
    (k : ∀ v s' fz' d H', Grow kp fz fz' → Rel G kp fz' env σ H' s' → V fz' d v → K d H' → wpAny (model G.prog G.w) A (PySem.call (.builtin id) [v]) P NoE s')
    (hbase : ∀ env : Env, attributeBase o name env (eval o env) = eval o env := by intro _; rfl) (hline : (apos.endLine == pos.line) = true := by rfl) :
    wpAny (model G.prog G.w) A (eval (.Call (.Attribute o name apos) [] [] pos) env) P NoE s := by
  refine wpAny_Call_method_late (hbase env) rfl hline rfl ?_
  refine h.run g ok R fun v s1 fz1 d H1 g1 R1 v1 h1 => ?_
  obtain ⟨hT, h1⟩ := h1
  obtain ⟨ht, hd⟩ := tyOf_at ok.ok R1.h hT v1
  refine ⟨T, id, pa, slot, hty, ht, hd, ?_⟩
  exact Calls.callWith_builtin rfl (PySem.evalArgs_none (k v s1 fz1 d H1 g1 R1 v1 h1))

theorem SIt.values {o tgt : Expr} {name : Str} {apos pos : Pos} {Q : List AV → HM → Prop} (hn : name = ("values" : Str)) (h : SE G n sc o σ H fun d H1 => Ex1 fun kvs => A2 (d = .dct kvs) (Q (kvs.map fun kv => .int kv.2) H1))
    (hbase : ∀ env : Env, attributeBase o name env (eval o env) = eval o env := by intro _; rfl) (hline : (apos.endLine == pos.line) = true := by rfl) : SIt G n sc (.Call (.Attribute o name apos) [] [] pos) tgt σ H Q := by
  subst hn
  intro A kp fz env s g ok R
  refine SE.meth_run (K := fun d H1 => Ex1 fun kvs => A2 (d = .dct kvs) (Q (kvs.map fun kv => .int kv.2) H1)) PySem.F.plainAttrs_dict PySem.F.slot_dict_values PySem.F.type_dict_values (h.mono ?_) g ok R (fun v s1 fz1 d H1 g1 R1 v1 q => ?_) hbase hline
  · rintro d H1 ⟨kvs, rfl, q⟩; exact ⟨rfl, kvs, rfl, q⟩
  obtain ⟨kvs, rfl, q⟩ := q
  simp only [V] at v1
  obtain ⟨a, ob, rfl, ho, hdi, hne⟩ := v1
  have hg := R1.h.froz _ _ ho
  obtain ⟨kk, ep, hat, hkv⟩ := hdi.at (prog := G.prog) (w := G.w) hg
  refine call_meetsIn PySem.F.slot_dict_values hat.dictOf.typeIs PySem.F.entry_dict_values (PySem.F.args_dict_values_1 _) (meets_dict_values (intKind G.prog G.w) a (dne hne)) ⟨⟨kk, hat.dictOf⟩, ?_⟩
  generalize hh : (s1.heap.push { cls := .type "dict_values", data := .fields #[.ref a] }) = h₁
  have hs1 : h₁.objs.size = s1.heap.objs.size + 1 := by rw [← hh, Heap.size_push]
  have hvv : h₁.IsValuesView s1.heap.objs.size a := by rw [← hh]; exact ⟨_, Heap.get?_push_size _ rfl, rfl, rfl⟩
  have old : ∀ b o, s1.heap.get? b = some o → h₁.get? b = some o := fun b o e => by rw [← hh]; exact Heap.get?_push_of_some _ e
  have hat₁ : Heap.DictAt (intKind G.prog G.w) h₁ a kk ep := hat.at' fun o e => old _ _ e
  have hI := Heap.get?_none_of_le (h := s1.heap) (a := h₁.objs.size) (by rw [hs1]; exact Nat.le_succ _)
  obtain ⟨f1, f2, f3⟩ := R1.h.fresh hI
  have hlt : a < h₁.objs.size := by rw [hs1]; exact Nat.lt_succ_of_lt (Heap.lt_size hg)
  refine wpAny_pyIter_values (knd := intKind G.prog G.w) hvv hat₁ ?_
  have W := Walks.dictValues (prog := G.prog) (w := G.w) (knd := intKind G.prog G.w) (A := A) g.handled h₁.objs.size a (Nat.ne_of_lt hlt) kk ep
  refine ⟨fz1, H1, _, h₁.objs.size, [a], _, rfl, g1, It.ofWalks W (by simp [hkv.length]) (fun b hb => by simpa using hb) (fun i h st => ?_) (fun b hb => ?_) (fun i d v fz' hd hs' hp => ?_),
    fun i s' Q st hQ => W.self i s' Q NoE st hQ, R1.keeps (tk := s1.toks) fun b o e => Heap.get?_push_of_some _ (old _ _ e), f1, f2, f3, ⟨⟨_, Heap.get?_push_size _ rfl, rfl, rfl⟩, hat₁.push _⟩, q⟩
  · obtain ⟨⟨o, e1, e2, e3⟩, _⟩ := st
    exact ⟨o, _, "dict_valueiterator", e1, e2, e3, by decide⟩
  · rw [List.mem_singleton] at hb; subst hb; exact ⟨ob, .inr ho⟩
  · obtain ⟨k, hp⟩ := hp
    obtain ⟨q1, e1, _, t, e2⟩ := hkv.get hp
    rw [List.getElem?_map, e1] at hd
    cases hd
    simp only at e2; subst e2
    simp only [V]; exact ⟨t, rfl⟩
end


section
variable {G : GC} {n : Nat} {sc : Scope} {σ : SM} {H : HM}

/-! tests -/
theorem ST.mono {e : Expr} {Q Q' : Bool → HM → Prop} (h : ST G n sc e σ H Q) (k : ∀ b H', Q b H' → Q' b H') : ST G n sc e σ H Q' := fun A kp fz env s g ok R =>
  wpAny_mono (h A kp fz env s g ok R) (fun b s' ⟨a1, a2, a3, a4, a5⟩ => ⟨a1, a2, a3, a4, k _ _ a5⟩) fun _ _ x => x
theorem ST.and {x : Expr} {rest : List Expr} {pos : Pos} {Q : Bool → HM → Prop} (h : ST G n sc x σ H fun b H1 => (b = true → ST G n sc (.BoolOp .And rest pos) σ H1 Q) ∧ (b = false → Q false H1)) :
    ST G n sc (.BoolOp .And (x :: rest) pos) σ H Q := by
  intro A kp fz env s g ok R
  refine isTrue_and (h.run g ok R fun b s1 fz1 H1 g1 R1 h1 => ?_)
  cases b with
  | true =>
    rw [if_pos rfl]
    exact ((h1.1 rfl)).run g ok R1 fun c s2 fz2 H2 g2 R2 q => ⟨fz2, H2, g1.trans g2, R2, q⟩
  | false =>
    rw [if_neg Bool.false_ne_true]
    exact ⟨fz1, H1, g1, R1, h1.2 rfl⟩
theorem ST.and_nil {pos : Pos} {Q : Bool → HM → Prop} (q : Q true H) : ST G n sc (.BoolOp .And [] pos) σ H Q := fun A kp fz env s g ok R => isTrue_and_nil ⟨fz, H, .refl .., R, q⟩
theorem ST.or {x : Expr} {rest : List Expr} {pos : Pos} {Q : Bool → HM → Prop} (h : ST G n sc x σ H fun b H1 => (b = true → Q true H1) ∧ (b = false → ST G n sc (.BoolOp .Or rest pos) σ H1 Q)) :
    ST G n sc (.BoolOp .Or (x :: rest) pos) σ H Q := by
  intro A kp fz env s g ok R
  refine isTrue_or (h.run g ok R fun b s1 fz1 H1 g1 R1 h1 => ?_)
  cases b with
  | false =>
    rw [if_neg Bool.false_ne_true]
    exact ((h1.2 rfl)).run g ok R1 fun c s2 fz2 H2 g2 R2 q => ⟨fz2, H2, g1.trans g2, R2, q⟩
  | true =>
    rw [if_pos rfl]
    exact ⟨fz1, H1, g1, R1, h1.1 rfl⟩
theorem ST.or_nil {pos : Pos} {Q : Bool → HM → Prop} (q : Q false H) : ST G n sc (.BoolOp .Or [] pos) σ H Q := fun A kp fz env s g ok R => isTrue_or_nil ⟨fz, H, .refl .., R, q⟩
/-- a value that is a bool -/
theorem ST.val {e : Expr} {Q : Bool → HM → Prop} (he : ∀ (env : Env) (whole : Sem Value), isTrue e env whole = (do let v ← whole; standAt e.pos; holding [v] (truthy v))) (h : SE G n sc e σ H fun d H1 => Ex1 fun b => A2 (d = .bool b) (Q b H1)) :
    ST G n sc e σ H Q := by
  intro A kp fz env s g ok R
  refine isTrue_plain (h.run g ok R fun v s1 fz1 d H1 g1 R1 v1 q => ?_) (he env _)
  obtain ⟨b, rfl, q⟩ := q
  simp only [V] at v1; subst v1
  exact wpAny_truthy_bool ⟨fz1, H1, g1, R1, q⟩
theorem ST.name {x : Str} {pos : Pos} {b : Bool} {Q : Bool → HM → Prop} (hk : (varKind (sc.names.lookup x) && !(x == ("__debug__" : Str)) && !(x == ("__classdict__" : Str))) = true) (hv : σ x = some (.bool b)) (q : Q b H) : ST G n sc (.Name x pos) σ H Q :=
  ST.val (fun _ _ => rfl) (SE.nm hk hv ⟨b, rfl, q⟩)
theorem SE.ifx {test body orelse : Expr} {pos : Pos} {Q : AV → HM → Prop} (h : ST G n sc test σ H fun b H1 => (b = true → SE G n sc body σ H1 Q) ∧ (b = false → SE G n sc orelse σ H1 Q)) : SE G n sc (.IfExp test body orelse pos) σ H Q := by
  intro A kp fz env s g ok R
  refine wpAny_IfExp (h.run g ok R fun b s1 fz1 H1 g1 R1 h1 => ?_)
  cases b with
  | true => exact (h1.1 rfl).run g ok R1 fun v s2 fz2 d H2 g2 R2 v2 q => ⟨fz2, d, H2, g1.trans g2, R2, v2, q⟩
  | false => exact (h1.2 rfl).run g ok R1 fun v s2 fz2 d H2 g2 R2 v2 q => ⟨fz2, d, H2, g1.trans g2, R2, v2, q⟩
theorem ST.chain {l r₁ r₂ : Expr} {op₁ op₂ : CmpOp} {pos : Pos} {Q : Bool → HM → Prop} (hm : lastMarks [op₁, op₂] [r₁, r₂] = false)
    (h : SE G n sc l σ H fun a H1 => SE G n sc r₁ σ H1 fun b H2 => SV2 G n (compareOp op₁) a b H2 fun d H3 => Ex1 fun c => A3 (d = .bool c) ((c = false → Q false H3)) ((c = true → SE G n sc r₂ σ H3 fun e H4 => SV2 G n (compareOp op₂) b e H4 fun d H5 => Ex1 fun c => A2 (d = .bool c) (Q c H5)))) :
    ST G n sc (.Compare l [op₁, op₂] [r₁, r₂] pos) σ H Q := by
  intro A kp fz env s g ok R
  refine isTrue_chain (h.run g ok R fun va s1 fz1 a H1 g1 R1 v1 h1 => ?_) hm
  refine test_link (h1.run g ok R1 fun vb s2 fz2 b H2 g2 R2 v2 h2 => ?_)
  refine h2.run g ok.ok R2 (v1.mono g2.1) v2 fun v s3 fz3 d H3 g3 R3 v3 q => ?_
  obtain ⟨c, rfl, q1, q2⟩ := q
  simp only [V] at v3; subst v3
  refine wpAny_truthy_bool ?_
  cases c with
  | false => rw [if_neg Bool.false_ne_true]; exact ⟨fz3, H3, (g1.trans g2).trans g3, R3, q1 rfl⟩
  | true =>
    rw [if_pos rfl]
    refine test_last ((q2 rfl).run g ok R3 fun ve s4 fz4 e H4 g4 R4 v4 h4 => ?_)
    refine h4.run g ok.ok R4 ((v2.mono g3.1).mono g4.1) v4 fun v s5 fz5 d H5 g5 R5 v5 q => ?_
    obtain ⟨c, rfl, q⟩ := q
    simp only [V] at v5; subst v5
    exact wpAny_truthy_bool ⟨fz5, H5, (((g1.trans g2).trans g3).trans g4).trans g5, R5, q⟩

theorem SE.neg {x : Expr} {pos : Pos} {Q : AV → HM → Prop} (h : SE G n sc x σ H fun d H1 => Ex1 fun i => A2 (d = .int i) (Q (.int (-i)) H1)) : SE G n sc (.UnaryOp .USub x pos) σ H Q := by
  intro A kp fz env s g ok R
  refine wpAny_UnaryOp (h.run g ok R fun v s1 fz1 d H1 g1 R1 v1 q => ?_)
  obtain ⟨i, rfl, q⟩ := q
  simp only [V] at v1
  obtain ⟨t, rfl⟩ := v1
  exact PyProof.Rows.neg_int ⟨fz1, _, H1, g1, R1.tok (tk := s1.toks + 1), V.anyInt _ _ _, q⟩
theorem SV2.le {i j : Int} {Q : AV → HM → Prop} (q : Q (.bool (decide (i ≤ j))) H) : SV2 G n (compareOp .LtE) (.int i) (.int j) H Q := .ints (d := .bool _) (fun _ _ _ _ _ _ k => PyProof.Rows.le_int (k _ _ (V.anyBool _))) q
theorem SV2.ge {i j : Int} {Q : AV → HM → Prop} (q : Q (.bool (decide (j ≤ i))) H) : SV2 G n (compareOp .GtE) (.int i) (.int j) H Q := .ints (d := .bool _) (fun _ _ _ _ _ _ k => PyProof.Rows.ge_int (k _ _ (V.anyBool _))) q

/-! sums and greatest -/
theorem op_sum {d : AV} {ns : List Int} {Q : AV → HM → Prop} (hd : LstOf H d (intsOf ns)) (q : Q (.int ns.sum) H) : SVL G n (fun vs => call (.builtin "sum") vs) [d] H Q := by
  intro A kp fz env σ s vs g ok R hv
  obtain ⟨x, rfl, hx⟩ := hv.single
  obtain ⟨a, ws, rfl, hl, hws, _⟩ := hd.at R.h hx
  obtain ⟨xs, rfl, rfl⟩ := hws.ints
  rw [intItems_of] at hl
  refine sum_intListG g.handled hl fun h' tk t' hk => ?_
  rw [PySem.preSum_eq]
  have e : ((xs.toArray.toList.map (·.1)).take xs.toArray.size) = xs.map (·.1) := List.take_of_length_le (by simp)
  rw [e]
  exact PV.now (R.keeps (tk := tk) hk) (V.anyInt _ _ _) q
noncomputable def maxI : List Int → Int
  | [] => 0
  | [x] => x
  | x :: y :: r => max x (maxI (y :: r))
theorem maxI_of : ∀ (ns : List Int) (m : Int), m ∈ ns → (∀ x ∈ ns, x ≤ m) → maxI ns = m
  | [], m, h, _ => by cases h
  | [x], m, h, _ => by rw [List.mem_singleton] at h; exact h.symm
  | x :: y :: r, m, h, k => by
    unfold maxI
    have hx := k x (.head _)
    rcases List.mem_cons.mp h with rfl | h
    · have : maxI (y :: r) ≤ m := by
        have hm : ∀ (l : List Int), l ≠ [] → maxI l ∈ l := by
          intro l
          induction l with
          | nil => intro h; exact absurd rfl h
          | cons a l ih =>
            intro _
            cases l with
            | nil => exact .head _
            | cons b l' =>
              have := ih (by simp)
              unfold maxI
              rcases Int.le_total a (maxI (b :: l')) with h | h
              · rw [Int.max_eq_right h]; exact .tail _ this
              · rw [Int.max_eq_left h]; exact .head _
        exact k _ (.tail _ (hm _ (by simp)))
      lia
    · rw [maxI_of (y :: r) m h fun z hz => k z (.tail _ hz)]; lia
theorem op_max {d : AV} {ns : List Int} {Q : AV → HM → Prop} (hd : LstOf H d (intsOf ns)) (hne : ns ≠ []) (q : Q (.int (maxI ns)) H) : SVL G n (fun vs => call (.builtin "max") vs) [d] H Q := by
  intro A kp fz env σ s vs g ok R hv
  obtain ⟨x, rfl, hx⟩ := hv.single
  obtain ⟨a, ws, rfl, hl, hws, _⟩ := hd.at R.h hx
  obtain ⟨xs, rfl, rfl⟩ := hws.ints
  rw [intItems_of] at hl
  have hpos : 0 < xs.length := by cases xs with | nil => exact absurd rfl hne | cons _ _ => simp
  refine max_intList g.handled hl (by simpa using hpos) fun v h' tk hat hk => ?_
  obtain ⟨t, rfl⟩ := intItems_at hat
  obtain ⟨h1, h2⟩ := PySem.argBest_gt (numAt xs.toArray) (xs.toArray.size - 1)
  refine PV.now (d := .int (maxI (xs.map (·.1)))) (R.keeps (tk := tk) hk) ?_ q
  have e : ∀ j, numAt xs.toArray j = (xs.map (·.1)).getD j 0 := fun j => by rw [PySem.numAt_eq]
  rw [maxI_of (xs.map (·.1)) (numAt xs.toArray (argBest (fun i j => decide (numAt xs.toArray i > numAt xs.toArray j)) (xs.toArray.size - 1)))]
  · exact V.anyInt _ _ _
  · rw [e, List.getD_eq_getElem?_getD]
    have hlt : argBest (fun i j => decide (numAt xs.toArray i > numAt xs.toArray j)) (xs.toArray.size - 1) < (xs.map (·.1)).length := by
      rw [List.length_map]
      have : xs.toArray.size = xs.length := by simp
      lia
    rw [List.getElem?_eq_getElem hlt]
    exact List.getElem_mem hlt
  · intro y hy
    obtain ⟨j, hj, rfl⟩ := List.mem_iff_getElem.mp hy
    have hj' : j ≤ xs.toArray.size - 1 := by
      rw [List.length_map] at hj
      have : xs.toArray.size = xs.length := by simp
      lia
    have := h2 j hj'
    rw [e j, List.getD_eq_getElem?_getD, List.getElem?_eq_getElem hj] at this
    exact this

/-! cuts of lists, and two lists one behind the other -/
theorem new_frozen_list {kp fz : FM} {env : Env} {s : Shared} {ds : List AV} {ws : List Value} {tk : Nat} {Q : AV → HM → Prop} (R : Rel G kp fz env σ H s) (hws : VL fz ds ws)
    (q : Q (.lst ds) H) : PV G kp fz env σ Q (.ref s.heap.objs.size) { s with heap := s.heap.push { cls := .type "list", data := .seq (List.toArray ws) }, toks := tk } := by
  have hn : s.heap.get? s.heap.objs.size = none := Heap.get?_none_of_le (Nat.le_refl _)
  obtain ⟨g2, R2⟩ := R.newF (tk := tk) (h' := s.heap.push { cls := .type "list", data := .seq (List.toArray ws) }) (ob := { cls := .type "list", data := .seq (List.toArray ws) }) hn (fun b o e => Heap.get?_push_of_some _ e) (Heap.get?_push_size _ rfl)
  refine ⟨_, .lst ds, H, g2, R2, ?_, q⟩
  simp only [V]
  exact ⟨_, ws, _, 0, rfl, up_self .., rfl, rfl, rfl, hws.mono g2.1⟩
theorem op_cutTo {d : AV} {ds : List AV} {k : Nat} {Q : AV → HM → Prop} (hd : LstOf H d ds) (hz : lineOk ds.length) (q : Q (.lst (ds.take k)) H) : SVS G n d none (some (k : Int)) none H Q := by
  intro A kp fz env σ s vo sl pl pu ps g ok R hv hs e1 e2 e3
  obtain ⟨a, ws, rfl, hl, hws, _⟩ := hd.at R.h hv
  have part : ∀ {p : Option (Int × Tok)} {i : Option Int}, p.map (·.1) = i → IsPart (partValue p) i := fun {p i} e => by
    cases p with
    | none => subst e; exact .none
    | some q => subst e; exact .int _ _
  refine wpAny_getItem_list_slice hl hs (part e1) (part e2) (part e3) (by simp) ?_ (by rw [List.size_toArray, hws.length]; exact hz.le)
  rw [slicePick_upto']
  exact new_frozen_list (tk := s.toks) R (by simpa using hws.take k) q
theorem op_add {d e : AV} {ds es : List AV} {Q : AV → HM → Prop} (hd : LstOf H d ds) (he : LstOf H e es) (hz : lineOk (ds.length + es.length)) (q : Q (.lst (ds ++ es)) H) : SV2 G n (binaryOp .Add) d e H Q := by
  intro A kp fz env σ s va vb g ok R ha hb
  obtain ⟨a, ws, rfl, hl, hws, _⟩ := hd.at R.h ha
  obtain ⟨b, us, rfl, hb, hus, _⟩ := he.at R.h hb
  obtain ⟨⟨cls, dd, data, sl⟩, ho, hc, n1, hd1⟩ := id hl
  obtain ⟨⟨cls2, dd2, data2, sl2⟩, ho2, hc2, n2, hd2⟩ := id hb
  simp only at hc hd1 hc2 hd2
  subst hc hd1 hc2 hd2
  have e : List.toArray ws ++ List.toArray us = List.toArray (ws ++ us) := by simp
  refine concat_meets ⟨_, ho, rfl⟩ ⟨_, ho2, rfl⟩ noFill_list_add seq_list_add PySem.F.slot_list_add PySem.F.entry_list_add (PySem.F.args_list_add_2 _ _)
    (list_addW a b (List.toArray ws) (List.toArray us) n1 n2 dd dd2 sl sl2 (by simp only [List.size_toArray, hws.length, hus.length]; exact hz.le)) ⟨ho, ho2, ?_⟩
  rw [e]
  exact new_frozen_list (tk := s.toks) R (hws.append hus) q

/-! plain data, deep -/
mutual
noncomputable def pd : AV → PyData
  | .none => .none
  | .bool b => .bool b
  | .int i => .int i
  | .str x => .str x
  | .tup ds => .tuple (pdL ds)
  | .lst ds => .list (pdL ds)
  | _ => .none
noncomputable def pdL : List AV → List PyData
  | [] => []
  | d :: ds => pd d :: pdL ds
end
mutual
noncomputable def plain : AV → Bool
  | .none | .bool _ | .int _ | .str _ => true
  | .tup ds | .lst ds => plainL ds
  | _ => false
noncomputable def plainL : List AV → Bool
  | [] => true
  | d :: ds => plain d && plainL ds
end
mutual
theorem V.reads {fz : FM} {h : Heap} (hf : ∀ a o, fz a = some o → h.get? a = some o) : ∀ (d : AV) (v : Value), plain d = true → V fz d v → ∃ as, Reads h v (pd d) as
  | .none, v, _, e => by simp only [V] at e; subst e; exact ⟨[], .none⟩
  | .bool b, v, _, e => by simp only [V] at e; subst e; exact ⟨[], .bool b⟩
  | .int i, v, _, e => by simp only [V] at e; obtain ⟨t, rfl⟩ := e; exact ⟨[], .int i t⟩
  | .str x, v, _, e => by simp only [V] at e; obtain ⟨t, rfl⟩ := e; exact ⟨[], .str x t⟩
  | .bytes _, v, hp, _ => by simp [plain] at hp
  | .ref _, v, hp, _ => by simp [plain] at hp
  | .dct _, v, hp, _ => by simp [plain] at hp
  | .tup ds, v, hp, e => by
    simp only [V] at e
    obtain ⟨a, vs, o, k, rfl, h1, h2, h3, h4, h5⟩ := e
    obtain ⟨as, ha⟩ := VL.readsA hf ds vs (by simpa [plain] using hp) h5
    exact ⟨as, .tuple (hf _ _ h1) h2 h4 (by simpa using ha)⟩
  | .lst ds, v, hp, e => by
    simp only [V] at e
    obtain ⟨a, vs, o, k, rfl, h1, h2, h3, h4, h5⟩ := e
    obtain ⟨as, ha⟩ := VL.readsA hf ds vs (by simpa [plain] using hp) h5
    exact ⟨a :: as, .list (hf _ _ h1) h2 h4 (by simpa using ha)⟩
theorem VL.readsA {fz : FM} {h : Heap} (hf : ∀ a o, fz a = some o → h.get? a = some o) : ∀ (ds : List AV) (vs : List Value), plainL ds = true → VL fz ds vs → ∃ as, ReadsAll h vs (pdL ds) as
  | [], vs, _, e => by simp only [VL] at e; subst e; exact ⟨[], .nil⟩
  | d :: ds, vs, hp, e => by
    simp only [VL] at e
    obtain ⟨v, r, rfl, e1, e2⟩ := e
    simp only [plainL, Bool.and_eq_true] at hp
    obtain ⟨a1, h1⟩ := V.reads hf d v hp.1 e1
    obtain ⟨a2, h2⟩ := VL.readsA hf ds r hp.2 e2
    exact ⟨a1 ++ a2, .cons h1 h2⟩
end
noncomputable def PDOf (H : HM) (a : AV) (da : PyData) : Prop := (plain a = true ∧ da = pd a) ∨ ∃ r ds, a = .ref r ∧ H r = some (.list ds) ∧ plainL ds = true ∧ da = .list (pdL ds)
theorem PDOf.reads {kp fz : FM} {s : Shared} {a : AV} {da : PyData} {v : Value} (R : RelH G kp fz H s) (h : PDOf H a da) (hv : V fz a v) : ∃ as, Reads s.heap v da as := by
  rcases h with ⟨h1, rfl⟩ | ⟨r, ds, rfl, h1, h2, rfl⟩
  · exact V.reads R.froz _ _ h1 hv
  · simp only [V] at hv; subst hv
    obtain ⟨ob, e1, ⟨vs, k, rfl, e2⟩, _⟩ := R.heap _ _ h1
    obtain ⟨as, ha⟩ := VL.readsA R.froz ds vs h2 e2
    exact ⟨r :: as, .list e1 rfl rfl (by simpa using ha)⟩
theorem SV2.eqD {a b : AV} {da db : PyData} {Q : AV → HM → Prop} (ha : PDOf H a da) (hb : PDOf H b db) (sa : SeqAt.shaped da = true) (sb : SeqAt.shaped db = true) (q : Q (.bool (da.eqv db)) H) : SV2 G n (compareOp .Eq) a b H Q := by
  intro A kp fz env σ s va vb g ok R hva hvb
  obtain ⟨as, ra⟩ := ha.reads R.h hva
  obtain ⟨bs, rb⟩ := hb.reads R.h hvb
  exact eq_dataH ra rb sa sb (by have := g.units; show A.units + 64 < 9900; lia) (PV.now R (V.anyBool _ _) q)
theorem SV2.neD {a b : AV} {da db : PyData} {Q : AV → HM → Prop} (ha : PDOf H a da) (hb : PDOf H b db) (sa : SeqAt.shaped da = true) (sb : SeqAt.shaped db = true) (q : Q (.bool (!da.eqv db)) H) : SV2 G n (compareOp .NotEq) a b H Q := by
  intro A kp fz env σ s va vb g ok R hva hvb
  obtain ⟨as, ra⟩ := ha.reads R.h hva
  obtain ⟨bs, rb⟩ := hb.reads R.h hvb
  exact ne_dataH ra rb sa sb (by have := g.units; show A.units + 64 < 9900; lia) (PV.now R (V.anyBool _ _) q)

/-- shallow and without odd strings -/
noncomputable def okD (k : Nat) (d : PyData) : Prop := d.canLay0 = true ∧ d.depth ≤ k
theorem okD.shaped {k : Nat} {d : PyData} (h : okD k d) (hk : k ≤ 64) : SeqAt.shaped d = true := by
  unfold SeqAt.shaped
  rw [h.1, Bool.true_and]
  exact decide_eq_true (Nat.le_trans h.2 hk)
theorem okD.int (i : Int) : okD 0 (.int i) := ⟨rfl, Nat.le_refl _⟩
theorem okD.bool (i : Bool) : okD 0 (.bool i) := ⟨rfl, Nat.le_refl _⟩
theorem okD.le {k m : Nat} {d : PyData} (h : okD k d) (hk : k ≤ m) : okD m d := ⟨h.1, Nat.le_trans h.2 hk⟩
theorem okD.all {k : Nat} : ∀ {ds : List PyData}, (∀ d ∈ ds, okD k d) → PyData.canLayAll0 ds = true ∧ PyData.depthAll ds ≤ k
  | [], _ => ⟨rfl, Nat.zero_le _⟩
  | d :: ds, h => by
    obtain ⟨h1, h2⟩ := okD.all fun e he => h e (.tail _ he)
    obtain ⟨h3, h4⟩ := h d (.head _)
    exact ⟨by simp [PyData.canLayAll0, h1, h3], by simp only [PyData.depthAll]; lia⟩
theorem okD.list {k : Nat} {ds : List PyData} (h : ∀ d ∈ ds, okD k d) : okD (k + 1) (.list ds) := by
  obtain ⟨h1, h2⟩ := okD.all h
  exact ⟨by simpa [PyData.canLay0] using h1, by simp only [PyData.depth]; lia⟩
theorem okD.tuple {k : Nat} {ds : List PyData} (h : ∀ d ∈ ds, okD k d) : okD (k + 1) (.tuple ds) := by
  obtain ⟨h1, h2⟩ := okD.all h
  exact ⟨by simpa [PyData.canLay0] using h1, by simp only [PyData.depth]; lia⟩
theorem pdL_map {α : Type} (f : α → AV) : ∀ l : List α, pdL (l.map f) = l.map fun x => pd (f x)
  | [] => rfl
  | a :: l => by simp [pdL, pdL_map f l]
theorem plainL_map {α : Type} (f : α → AV) (h : ∀ x, plain (f x) = true) : ∀ l : List α, plainL (l.map f) = true
  | [] => rfl
  | a :: l => by simp [plainL, plainL_map f h l, h a]
/-- equality of lists of data of a kind -/
theorem eqvAll_map {α : Type} [DecidableEq α] (f : α → PyData) (h : ∀ x y, (f x).eqv (f y) = decide (x = y)) : ∀ l m : List α, PyData.eqvAll (l.map f) (m.map f) = decide (l = m)
  | [], [] => by simp [PyData.eqvAll]
  | [], _ :: _ => by simp [PyData.eqvAll]
  | _ :: _, [] => by simp [PyData.eqvAll]
  | a :: l, b :: m => by
    simp only [List.map_cons, PyData.eqvAll, h, eqvAll_map f h l m]
    by_cases h1 : a = b <;> by_cases h2 : l = m <;> simp [h1, h2]
end


section
variable {G : GC} {n : Nat} {sc : Scope} {σ : SM} {H : HM}

theorem SEs.nil {acc : List AV} {Q : List AV → HM → Prop} (q : Q acc H) : SEs G n sc [] acc σ H Q := q
theorem SEs.cons {e : Expr} {es : List Expr} {acc : List AV} {Q : List AV → HM → Prop} (hs : isStar e = false) (h : SE G n sc e σ H fun d H1 => SEs G n sc es (acc ++ [d]) σ H1 Q) : SEs G n sc (e :: es) acc σ H Q := ⟨hs, h⟩
theorem SEo.none {Q : Option Int → HM → Prop} (q : Q none H) : SEo G n sc none σ H Q := q
theorem SEo.some {e : Expr} {Q : Option Int → HM → Prop} (h : SE G n sc e σ H fun d H1 => Ex1 fun i => A2 (d = .int i) (Q (some i) H1)) : SEo G n sc (some e) σ H Q := h

theorem SE.len {f : Str} {e : Expr} {p pos : Pos} {Q : AV → HM → Prop} (hf : (f == ("len" : Str)) = true) (hx : sc.names.lookup f = some .globalImplicit) (hs : isStar e = false)
    (h : SE G n sc e σ H fun d H1 => SVL G n (fun vs => PySem.call (.builtin "len") vs) [d] H1 Q) : SE G n sc (.Call (.Name f p) [e] [] pos) σ H Q := by
  have := eq_of_beq hf; subst this
  exact SE.callB (id := "len") hx (by decide) (by decide +kernel) (by simp [hs]) rfl (by decide) ⟨hs, h⟩
theorem SE.sum {f : Str} {e : Expr} {p pos : Pos} {Q : AV → HM → Prop} (hf : (f == ("sum" : Str)) = true) (hx : sc.names.lookup f = some .globalImplicit) (hs : isStar e = false)
    (h : SE G n sc e σ H fun d H1 => SVL G n (fun vs => PySem.call (.builtin "sum") vs) [d] H1 Q) : SE G n sc (.Call (.Name f p) [e] [] pos) σ H Q := by
  have := eq_of_beq hf; subst this
  exact SE.callB (id := "sum") hx (by decide) (by decide +kernel) (by simp [hs]) rfl (by decide) ⟨hs, h⟩
theorem SE.maxb {f : Str} {e : Expr} {p pos : Pos} {Q : AV → HM → Prop} (hf : (f == ("max" : Str)) = true) (hx : sc.names.lookup f = some .globalImplicit) (hs : isStar e = false)
    (h : SE G n sc e σ H fun d H1 => SVL G n (fun vs => PySem.call (.builtin "max") vs) [d] H1 Q) : SE G n sc (.Call (.Name f p) [e] [] pos) σ H Q := by
  have := eq_of_beq hf; subst this
  exact SE.callB (id := "max") hx (by decide) (by decide +kernel) (by simp [hs]) rfl (by decide) ⟨hs, h⟩

theorem merge_self (H H2 : HM) : merge H H H2 = H2 := by
  funext a
  unfold merge
  cases h2 : H2 a with
  | some m => rfl
  | none => cases h1 : H a <;> simp
/-- a def is called with all that is made -/
theorem SE.callH {f : Str} {args : List Expr} {pos p : Pos} {Q : AV → HM → Prop} (hfn : IsFn G f) (hx : sc.names.lookup f = some .globalImplicit) (hd : (f == ("__debug__" : Str)) = false)
    (h : SEs G n sc args [] σ H fun ds H1 => SC G n f ds H1 Q) : SE G n sc (.Call (.Name f p) args [] pos) σ H Q := by
  refine SE.call hfn ?_ hx hd
  have mono : ∀ {es : List Expr} {acc : List AV} {H : HM} {Q Q' : List AV → HM → Prop}, (∀ ds H, Q ds H → Q' ds H) → SEs G n sc es acc σ H Q → SEs G n sc es acc σ H Q' := by
    intro es
    induction es with
    | nil => intro acc H Q Q' k h; exact k _ _ h
    | cons e es ih => intro acc H Q Q' k h; exact ⟨h.1, h.2.mono fun d H' h' => ih k h'⟩
  refine mono (fun ds H1 hc => ⟨H1, Sub.refl _, ?_⟩) h
  obtain ⟨fa, o, fd, h1, h2, h3, h4⟩ := hc
  refine ⟨fa, o, fd, h1, h2, h3, fun A kp fz s vs g ok R hv => wpAny_mono (h4 A kp fz s vs g ok R hv) (fun v s' q => ?_) fun _ _ x => x⟩
  obtain ⟨fz', d, H', a1, a2, a3, a4⟩ := q
  exact ⟨fz', d, H', a1, a2, a3, by show Q d (merge H1 H1 H'); rw [merge_self]; exact a4⟩

section
variable {o : Expr} {name : Str} {apos pos : Pos} {Q : AV → HM → Prop}
theorem SE.append {arg : Expr} (hn : (name == ("append" : Str)) = true) (hb : ∀ env : Env, attributeBase o name env (eval o env) = eval o env) (hl : (apos.endLine == pos.line) = true) (hs : isStar arg = false)
    (h : SE G n sc o σ H fun d H1 => Ex2 fun r xs => A3 (d = .ref r) (H1 r = some (.list xs)) (SE G n sc arg σ H1 fun e H2 => Ex1 fun ys => A3 (H2 r = some (.list ys)) (lineOk ys.length) (Q .none (up H2 r (.list (ys ++ [e])))))) :
    SE G n sc (.Call (.Attribute o name apos) [arg] [] pos) σ H Q := by
  have := eq_of_beq hn; subst this
  refine SE.meth (T := "list") (id := "list.append") PySem.F.plainAttrs_list PySem.F.slot_list_append PySem.F.type_list_append (h.mono ?_) hb (by simp [hs]) rfl hl
  rintro d H1 ⟨r, xs, rfl, hr, h1⟩
  refine ⟨by simp [tyOf, hr], hs, h1.mono ?_⟩
  rintro e H2 ⟨ys, hr2, hz, q⟩
  exact op_append hr2 hz q
theorem SE.popLast (hn : (name == ("pop" : Str)) = true) (hb : ∀ env : Env, attributeBase o name env (eval o env) = eval o env) (hl : (apos.endLine == pos.line) = true)
    (h : SE G n sc o σ H fun d H1 => Ex3 fun r xs e => A4 (d = .ref r) (H1 r = some (.list (xs ++ [e]))) (lineOk (xs.length + 1)) (Q e (up H1 r (.list xs)))) :
    SE G n sc (.Call (.Attribute o name apos) [] [] pos) σ H Q := by
  have := eq_of_beq hn; subst this
  refine SE.meth (T := "list") (id := "list.pop") PySem.F.plainAttrs_list PySem.F.slot_list_pop PySem.F.type_list_pop (h.mono ?_) hb rfl rfl hl
  rintro d H1 ⟨r, xs, e, rfl, hr, hz, q⟩
  exact ⟨by simp [tyOf, hr], op_pop hr hz q⟩
theorem SE.popAt {arg : Expr} (hn : (name == ("pop" : Str)) = true) (hb : ∀ env : Env, attributeBase o name env (eval o env) = eval o env) (hl : (apos.endLine == pos.line) = true) (hs : isStar arg = false)
    (h : SE G n sc o σ H fun d H1 => Ex2 fun r xs => A3 (d = .ref r) (H1 r = some (.list xs)) (SE G n sc arg σ H1 fun e H2 => Ex2 fun ys x => Ex1 fun (i : Nat) => A5 (e = .int i) (H2 r = some (.list ys)) (lineOk ys.length) (ys[i]? = some x) (Q x (up H2 r (.list (ys.eraseIdx i)))))) :
    SE G n sc (.Call (.Attribute o name apos) [arg] [] pos) σ H Q := by
  have := eq_of_beq hn; subst this
  refine SE.meth (T := "list") (id := "list.pop") PySem.F.plainAttrs_list PySem.F.slot_list_pop PySem.F.type_list_pop (h.mono ?_) hb (by simp [hs]) rfl hl
  rintro d H1 ⟨r, xs, rfl, hr, h1⟩
  refine ⟨by simp [tyOf, hr], hs, h1.mono ?_⟩
  rintro e H2 ⟨ys, x, i, rfl, hr2, hz, hx, q⟩
  exact op_popAt hr2 hz hx q
theorem SE.index {arg : Expr} (hn : (name == ("index" : Str)) = true) (hb : ∀ env : Env, attributeBase o name env (eval o env) = eval o env) (hl : (apos.endLine == pos.line) = true) (hs : isStar arg = false)
    (h : SE G n sc o σ H fun d H1 => Ex2 fun r xs => A3 (d = .ref r) (H1 r = some (.list xs)) (SE G n sc arg σ H1 fun e H2 => Ex3 fun ns i j => A6 (e = .int i) (H2 r = some (.list (intsOf ns))) (lineOk ns.length) (ns[j]? = some i) ((∀ m, m < j → ns[m]? ≠ some i)) (Q (.int (j : Nat)) H2))) :
    SE G n sc (.Call (.Attribute o name apos) [arg] [] pos) σ H Q := by
  have := eq_of_beq hn; subst this
  refine SE.meth (T := "list") (id := "list.index") PySem.F.plainAttrs_list PySem.F.slot_list_index PySem.F.type_list_index (h.mono ?_) hb (by simp [hs]) rfl hl
  rintro d H1 ⟨r, xs, rfl, hr, h1⟩
  refine ⟨by simp [tyOf, hr], hs, h1.mono ?_⟩
  rintro e H2 ⟨ns, i, j, rfl, hr2, hz, hj, hno, q⟩
  exact op_index hr2 hz hj hno q
theorem SE.insert {a₁ a₂ : Expr} (hn : (name == ("insert" : Str)) = true) (hb : ∀ env : Env, attributeBase o name env (eval o env) = eval o env) (hl : (apos.endLine == pos.line) = true) (hs : isStar a₁ = false) (hs2 : isStar a₂ = false)
    (h : SE G n sc o σ H fun d H1 => Ex2 fun r xs => A3 (d = .ref r) (H1 r = some (.list xs)) (SE G n sc a₁ σ H1 fun e H2 => SE G n sc a₂ σ H2 fun x H3 => Ex1 fun ys => Ex1 fun (i : Nat) => A5 (e = .int i) (H3 r = some (.list ys)) (lineOk ys.length) (i ≤ ys.length) (Q .none (up H3 r (.list (ys.take i ++ x :: ys.drop i)))))) :
    SE G n sc (.Call (.Attribute o name apos) [a₁, a₂] [] pos) σ H Q := by
  have := eq_of_beq hn; subst this
  refine SE.meth (T := "list") (id := "list.insert") PySem.F.plainAttrs_list PySem.F.slot_list_insert PySem.F.type_list_insert (h.mono ?_) hb (by simp [hs, hs2]) rfl hl
  rintro d H1 ⟨r, xs, rfl, hr, h1⟩
  refine ⟨by simp [tyOf, hr], hs, h1.mono fun e H2 h2 => ⟨hs2, h2.mono ?_⟩⟩
  rintro x H3 ⟨ys, i, rfl, hr2, hz, hi, q⟩
  exact op_insert hr2 hz hi q
theorem SE.reverse (hn : (name == ("reverse" : Str)) = true) (hb : ∀ env : Env, attributeBase o name env (eval o env) = eval o env) (hl : (apos.endLine == pos.line) = true)
    (h : SE G n sc o σ H fun d H1 => Ex2 fun r xs => A4 (d = .ref r) (H1 r = some (.list xs)) (lineOk xs.length) (Q .none (up H1 r (.list xs.reverse)))) :
    SE G n sc (.Call (.Attribute o name apos) [] [] pos) σ H Q := by
  have := eq_of_beq hn; subst this
  refine SE.meth (T := "list") (id := "list.reverse") PySem.F.plainAttrs_list PySem.F.slot_list_reverse PySem.F.type_list_reverse (h.mono ?_) hb rfl rfl hl
  rintro d H1 ⟨r, xs, rfl, hr, hz, q⟩
  exact ⟨by simp [tyOf, hr], op_reverse hr hz q⟩
end

/-- an item of a list -/
theorem SE.item {value slice : Expr} {pos : Pos} {Q : AV → HM → Prop} (h : SE G n sc value σ H fun d H1 => SE G n sc slice σ H1 fun e H2 => Ex2 fun ds x => Ex1 fun (i : Nat) => A5 (LstOf H2 d ds) (e = .int i) (lineOk i) (ds[i]? = some x) (Q x H2)) :
    SE G n sc (.Subscript value slice pos) σ H Q := by
  refine SE.sub (T := "list") list_getitem_lookup (h.mono fun d H1 h1 => h1.mono ?_)
  rintro e H2 ⟨ds, x, i, hd, rfl, hz, hx, q⟩
  refine ⟨?_, op_item hd hz hx q⟩
  rcases hd with rfl | ⟨r, rfl, hr⟩
  · rfl
  · simp [tyOf, hr]
theorem SE.dictItem {value slice : Expr} {pos : Pos} {Q : AV → HM → Prop} (h : SE G n sc value σ H fun d H1 => SE G n sc slice σ H1 fun e H2 => Ex3 fun kvs k v => A4 (DctOf H2 d kvs) (e = .int k) (dget kvs k = some v) (Q (.int v) H2)) :
    SE G n sc (.Subscript value slice pos) σ H Q := by
  refine SE.sub (T := "dict") PySem.slot_dict_getitem.lookup (h.mono fun d H1 h1 => h1.mono ?_)
  rintro e H2 ⟨kvs, k, v, hd, rfl, hv, q⟩
  refine ⟨?_, op_dget hd hv q⟩
  rcases hd with rfl | ⟨r, rfl, hr⟩
  · rfl
  · simp [tyOf, hr]
/-- the first of a list, to a place -/
theorem SE.cutTo {value upper : Expr} {p pos : Pos} {Q : AV → HM → Prop} (h : SE G n sc value σ H fun d H1 => SE G n sc upper σ H1 fun e H2 => Ex1 fun ds => Ex1 fun (k : Nat) => A4 (LstOf H2 d ds) (e = .int k) (lineOk ds.length) (Q (.lst (ds.take k)) H2)) :
    SE G n sc (.Subscript value (.Slice none (some upper) none p) pos) σ H Q := by
  refine SE.cut (T := "list") list_getitem_lookup (h.mono fun d H1 h1 => SEo.none (SEo.some (h1.mono ?_)))
  rintro e H2 ⟨ds, k, hd, rfl, hz, q⟩
  refine ⟨k, rfl, SEo.none ⟨?_, op_cutTo hd hz q⟩⟩
  rcases hd with rfl | ⟨r, rfl, hr⟩
  · rfl
  · simp [tyOf, hr]
end


section
variable {G : GC} {n : Nat} {sc : Scope} {σ : SM} {H : HM}
theorem STs.nil {K : Bool → HM → Prop} (q : K true H) : STs G n sc [] σ H K := q
theorem STs.one {c : Expr} {K : Bool → HM → Prop} (h : ST G n sc c σ H K) : STs G n sc [c] σ H K := h
theorem STs.mono {K K' : Bool → HM → Prop} (kk : ∀ b H, K b H → K' b H) : ∀ {ifs : List Expr}, STs G n sc ifs σ H K → STs G n sc ifs σ H K'
  | [], hh => kk _ _ hh
  | [c], hh => ST.mono (show ST G n sc c σ H K from hh) kk
  | _ :: _ :: _, hh => hh.elim

theorem CmpW.ind {elt tgt : Expr} {ifs : List Expr} {σc : SM} {Q : MO → HM → Prop} (I : List AV → List AV → HM → Prop)
    (turn : ∀ d ds acc H, I (d :: ds) acc H → ∃ σ1, asg σc tgt d = some σ1 ∧ STs G n sc ifs σ1 H fun b H1 => (b = true → SE G n sc elt σ1 H1 fun v H2 => lineOk acc.length ∧ I ds (acc ++ [v]) H2) ∧ (b = false → I ds acc H1))
    (fin : ∀ acc H, I [] acc H → Q (.list acc) H) : ∀ (ds acc : List AV) (H : HM), I ds acc H → CmpW G n sc tgt ifs (emitL elt) σc Q ds (.list acc) H
  | [], acc, H, h => fin acc H h
  | d :: ds, acc, H, h => by
    obtain ⟨σ1, h1, h2⟩ := turn d ds acc H h
    refine ⟨σ1, h1, STs.mono (fun b H1 hb => ⟨fun e => ?_, fun e => CmpW.ind I turn fin ds acc H1 (hb.2 e)⟩) h2⟩
    have hz : lineOk acc.length ∨ ¬ lineOk acc.length := Classical.em _
    rcases hz with hz | hz
    · exact Em.list hz ((hb.1 e).mono fun v H2 q => CmpW.ind I turn fin ds _ H2 q.2)
    · intro A kp fz env s D g ok R hD
      obtain ⟨ob, ho, RD, hvD, hkD, hfD⟩ := R.holdH (r := D) (m := .list acc) (up_self ..)
      rw [del_up_none _ hD] at RD
      show wpAny _ A (PySem.eval elt env >>= fun x => PySem.call (.builtin "list.append") [.ref D, x] >>= fun _ => pure ()) _ _ _
      exact wpAny_bind ((hb.1 e).run g ok RD fun v s1 fz1 d H1 g1 R1 v1 q => absurd q.1 hz)
theorem CmpW.indD {k v tgt : Expr} {ifs : List Expr} {σc : SM} {Q : MO → HM → Prop} (I : List AV → List (Int × Int) → HM → Prop)
    (turn : ∀ d ds acc H, I (d :: ds) acc H → lineOk acc.length ∧ ∃ σ1, asg σc tgt d = some σ1 ∧ STs G n sc ifs σ1 H fun b H1 => (b = true → SE G n sc k σ1 H1 fun d1 H2 => Ex1 fun i => A2 (d1 = .int i) (SE G n sc v σ1 H2 fun d2 H3 => Ex1 fun j => A2 (d2 = .int j) (I ds (dset acc i j) H3))) ∧ (b = false → I ds acc H1))
    (fin : ∀ acc H, I [] acc H → Q (.dict acc) H) : ∀ (ds : List AV) (acc : List (Int × Int)) (H : HM), I ds acc H → CmpW G n sc tgt ifs (emitD k v) σc Q ds (.dict acc) H
  | [], acc, H, h => fin acc H h
  | d :: ds, acc, H, h => by
    obtain ⟨hz, σ1, h1, h2⟩ := turn d ds acc H h
    refine ⟨σ1, h1, STs.mono (fun b H1 hb => ⟨fun e => ?_, fun e => CmpW.indD I turn fin ds acc H1 (hb.2 e)⟩) h2⟩
    refine Em.dict hz ((hb.1 e).mono ?_)
    rintro d1 H2 ⟨i, rfl, q⟩
    refine ⟨i, rfl, q.mono ?_⟩
    rintro d2 H3 ⟨j, rfl, q⟩
    exact ⟨j, rfl, CmpW.indD I turn fin ds _ H3 q⟩
theorem S1.mono {st : Stmt} {Q Q' : AF → SM → HM → Prop} (h : S1 G n sc st σ H Q) (k : ∀ f σ' H', Q f σ' H' → Q' f σ' H') : S1 G n sc st σ H Q' := fun A kp fz env s g ok R =>
  wpAny_mono (h A kp fz env s g ok R) (fun f s' ⟨a1, a2, a3, a4, a5, a6, a7, a8⟩ => ⟨a1, a2, a3, a4, a5, a6, a7, k _ _ _ a8⟩) fun _ _ x => x
/-- between two statements only what is named is kept -/
theorem SS.mid {α : Type} {st : Stmt} {rest : List Stmt} {Q : AF → SM → HM → Prop} (names : List Str) (vals : α → List AV) (I : α → HM → Prop)
    (h1 : S1 G n sc st σ H fun f σ' H' => f = .next ∧ ∃ a, Sub (argsOf names (vals a)) σ' ∧ I a H') (h2 : ∀ a H', I a H' → SS G n sc rest (argsOf names (vals a)) H' Q) : SS G n sc (st :: rest) σ H Q := by
  refine SS.cons (h1.mono ?_)
  rintro f σ' H' ⟨rfl, a, hs, hI⟩
  exact SS.weak hs (Sub.refl _) (h2 a H' hI)
end


section
variable {G : GC} {kp fz : FM} {env : Env} {σ : SM} {H : HM} {s : Shared}
/-- a thing is found that stays as it is -/
theorem Rel.knowF {r : Addr} {ob : Obj} (R : Rel G kp fz env σ H s) (hk : kp r = none) (hf : fz r = none) (hH : H r = none) (hL : env.locals ≠ r) (ho : s.heap.get? r = some ob) (hc : ∀ v, ob.data ≠ .cell v) : Grow kp fz (up fz r ob) ∧ Rel G kp (up fz r ob) env σ H s := by
  have g := grow_up (ob := ob) hf hk
  refine ⟨g, R.h.grow g.1 (fun a o e => ?_) fun r' m e => ?_, R.e.grow g.1 (by rw [up_ne _ _ hL]; exact R.e.nL.2.1) fun x c hx hc' => ?_⟩
  · unfold up at e; split at e
    · rename_i h; subst h; cases e; exact ho
    · exact R.h.froz a o e
  · have : r' ≠ r := by rintro rfl; rw [hH] at e; cases e
    rw [up_ne _ _ this]; exact (R.h.heap r' m e).choose_spec.2.2.2
  · obtain ⟨c', v, q1, q2, q3, q4⟩ := R.e.own x hx
    rw [hc'] at q1; cases q1
    have : c ≠ r := by
      rintro rfl
      obtain ⟨o, w1, w2⟩ := q2
      rw [ho] at w1; cases w1; exact hc _ w2
    rw [up_ne _ _ this]; exact q4
end

section
variable {G : GC} {n : Nat} {sc : Scope} {σ : SM} {H : HM}

noncomputable def itemAV (kv : Int × Int) : AV := .tup [.int kv.1, .int kv.2]
theorem It.items {A : Around} {ts : List Expr} {x1 : Nat} {tpos : Pos} {I d : Addr} {kk : List (Int × Value)} {kvs : List (Int × Int)} {ep : Nat} {kp fz : FM} {ob : Obj} (hh : A.handled = none) (hkv : KV kvs kk) (hd : kp d = some ob ∨ fz d = some ob) (hne : d ≠ I) :
    It G A (.Tuple ts x1 tpos) I (kvs.map itemAV) kp fz [d] (fun i h => (∃ ok ov, IsItemIter h I d i kk.length ep ok ov) ∧ Heap.DictAt (intKind G.prog G.w) h d kk ep) where
  frame := fun i h h' st hk => by
    obtain ⟨⟨ok, ov, h1⟩, h2⟩ := st
    exact ⟨⟨ok, ov, hk I (.inl rfl) _ h1⟩, h2.at' fun o e => hk d (.inr (by simp)) o e⟩
  ob := fun i h st => by obtain ⟨⟨ok, ov, h1⟩, _⟩ := st; exact ⟨_, _, h1, rfl⟩
  fix := fun b hb => by rw [List.mem_singleton] at hb; subst hb; exact ⟨ob, hd⟩
  item := fun i dd kp₁ fz₁ env σ₁ H₁ s₁ Q hdd hs1 hs2 R hk hf hH st hQ => by
    obtain ⟨⟨ok, ov, h1⟩, h2⟩ := st
    rw [List.getElem?_map] at hdd
    cases hq : kvs[i]? with
    | none => rw [hq] at hdd; cases hdd
    | some kv =>
    rw [hq] at hdd; cases hdd
    have hi : i < kk.length := by rw [hkv.length]; exact (List.getElem?_eq_some_iff.mp hq).1
    have hx : kk[i]? = some kk[i] := List.getElem?_eq_getElem hi
    obtain ⟨kv', e1, e2, t, e3⟩ := hkv.get hx
    rw [hq] at e1; cases e1
    have hx' : kk[i]? = some (kv.1, .int kv.2 t) := by rw [hx]; exact congrArg some (Prod.ext e2 e3)
    refine wpAny_pyNext_items_item (knd := intKind G.prog G.w) h1 h2 hx' fun key h' hkey he ht hz hkeep => ?_
    refine ⟨.ref s₁.heap.objs.size, rfl, ?_⟩
    refine wpAny_letOwnedTupleGo_items he fun h'' he2 hs'' => ?_
    have hn : s₁.heap.get? s₁.heap.objs.size = none := Heap.get?_none_of_le (Nat.le_refl _)
    obtain ⟨f1, f2, f3⟩ := R.h.fresh hn
    have hIlt : I < s₁.heap.objs.size := Heap.lt_size h1
    have hIa : s₁.heap.objs.size ≠ I := Nat.ne_of_gt hIlt
    have keep2 : ∀ b o, b ≠ I → s₁.heap.get? b = some o → h''.get? b = some o := fun b o hb e => (hs''.2 b hb).trans (hkeep b o hb e)
    have R1 := R.keepsBut (tk := s₁.toks) (h' := h'') hk hf hH h1 rfl keep2
    have ht2 : h''.get? s₁.heap.objs.size = some { cls := .type "tuple", data := .seq #[key, .int kv.2 t] } := (hs''.2 _ hIa).trans ht
    obtain ⟨g2, R2⟩ := R1.knowF f1 f2 f3 (R.ne_loc hn) ht2 (fun v e => nomatch e)
    obtain ⟨t1, rfl⟩ := Value.isInt_shape hkey
    refine hQ _ { s₁ with heap := h'' } _ g2 R2 (by rw [up_ne _ _ hIa.symm]; exact hf) ?_ ⟨⟨_, _, he2⟩, h2.at' fun o e => keep2 d o hne e⟩
    simp only [itemAV, V, VL]
    exact ⟨_, [.int kv.1 t1, .int kv.2 t], _, 0, rfl, up_self .., rfl, rfl, rfl, _, _, rfl, ⟨_, rfl⟩, _, _, rfl, ⟨_, rfl⟩, rfl⟩
  done := fun kp₁ fz₁ env σ₁ H₁ s₁ Q hs1 hs2 R hk hf hH st hQ => by
    obtain ⟨⟨ok, ov, h1⟩, h2⟩ := st
    have hlen : kvs.length = kk.length := hkv.length.symm
    rw [List.length_map, hlen] at h1
    refine wpAny_pyNext_items_end (knd := intKind G.prog G.w) hh h1 h2 (by simp) fun h' he => ⟨rfl, ?_⟩
    exact hQ _ (R.keepsBut (tk := s₁.toks) (h' := h') hk hf hH h1 rfl fun b o hb e => he b o hb e) fun b o hb e => he b o hb e

theorem S1.forItems {ts : List Expr} {x1 : Nat} {tpos : Pos} {o : Expr} {name : Str} {apos cpos pos : Pos} {body : List Stmt} {Q : AF → SM → HM → Prop} (hn : (name == ("items" : Str)) = true)
    (hbase : ∀ env : Env, attributeBase o name env (eval o env) = eval o env) (hline : (apos.endLine == cpos.line) = true)
    (h : SE G n sc o σ H fun d H1 => Ex1 fun kvs => A2 (d = .dct kvs) (ForW G n sc (.Tuple ts x1 tpos) body Q (kvs.map itemAV) σ H1)) :
    S1 G n sc (.For (.Tuple ts x1 tpos) (.Call (.Attribute o name apos) [] [] cpos) body [] pos) σ H Q := by
  have := eq_of_beq hn; subst this
  intro A kp fz env s g ok R
  refine wpAny_For (SE.meth_run (K := fun d H1 => Ex1 fun kvs => A2 (d = .dct kvs) (ForW G n sc (.Tuple ts x1 tpos) body Q (kvs.map itemAV) σ H1)) PySem.F.plainAttrs_dict PySem.F.slot_dict_items PySem.F.type_dict_items (h.mono ?_) g ok R (fun v s1 fz1 d H1 g1 R1 v1 q => ?_) hbase hline) (fold_no rfl env)
  · rintro d H1 ⟨kvs, rfl, q⟩; exact ⟨rfl, kvs, rfl, q⟩
  obtain ⟨kvs, rfl, q⟩ := q
  simp only [V] at v1
  obtain ⟨a, ob, rfl, ho, hdi, hne⟩ := v1
  have hg := R1.h.froz _ _ ho
  obtain ⟨kk, ep, hat, hkv⟩ := hdi.at (prog := G.prog) (w := G.w) hg
  refine call_meetsIn PySem.F.slot_dict_items hat.dictOf.typeIs PySem.F.entry_dict_items (PySem.F.args_dict_items_1 _) (meets_dict_items (intKind G.prog G.w) a (dne hne)) ⟨⟨kk, hat.dictOf⟩, ?_⟩
  generalize hh : (s1.heap.push { cls := .type "dict_items", data := .fields #[.ref a] }) = h₁
  have hs1 : h₁.objs.size = s1.heap.objs.size + 1 := by rw [← hh, Heap.size_push]
  have hvv : h₁.IsItemsView s1.heap.objs.size a := by rw [← hh]; exact ⟨_, Heap.get?_push_size _ rfl, rfl, rfl⟩
  have old : ∀ b o, s1.heap.get? b = some o → h₁.get? b = some o := fun b o e => by rw [← hh]; exact Heap.get?_push_of_some _ e
  have hat₁ : Heap.DictAt (intKind G.prog G.w) h₁ a kk ep := hat.at' fun o e => old _ _ e
  have hI := Heap.get?_none_of_le (h := s1.heap) (a := h₁.objs.size) (by rw [hs1]; exact Nat.le_succ _)
  obtain ⟨f1, f2, f3⟩ := R1.h.fresh hI
  have hlt : a < h₁.objs.size := by rw [hs1]; exact Nat.lt_succ_of_lt (Heap.lt_size hg)
  refine wpAny_pyIter_items (knd := intKind G.prog G.w) hvv hat₁ ?_
  have W := It.items (G := G) (A := A) (ts := ts) (x1 := x1) (tpos := tpos) (I := h₁.objs.size) (d := a) (kk := kk) (ep := ep) (kp := kp) (fz := fz1) (ob := ob) g.handled hkv (.inr ho) (Nat.ne_of_lt hlt)
  refine codeAny_mono (for_core W g ok (R1.keeps (tk := s1.toks) fun b o e => Heap.get?_push_of_some _ (old _ _ e)) f1 f2 f3 ⟨⟨_, _, Heap.get?_push_size _ rfl⟩, hat₁.push _⟩ q) fun r s' h3 => ?_
  obtain ⟨f, fz2, af, σ', H2, rfl, g2, R2, hv, q⟩ := h3
  exact ⟨fz2, af, σ', H2, g1.trans g2, R2, hv, q⟩

/-- an int is no tuple -/
theorem SE.isTup {f t : Str} {e : Expr} {p pt pos : Pos} {Q : AV → HM → Prop} (hf : (f == ("isinstance" : Str) && t == ("tuple" : Str)) = true) (hx : sc.names.lookup f = some .globalImplicit) (ht : sc.names.lookup t = some .globalImplicit) (hs : isStar e = false)
    (h : SE G n sc e σ H fun d H1 => Ex1 fun i => A2 (d = .int i) (Q (.bool false) H1)) : SE G n sc (.Call (.Name f p) [e, .Name t pt] [] pos) σ H Q := by
  simp only [Bool.and_eq_true] at hf
  have := eq_of_beq hf.1; subst this
  have := eq_of_beq hf.2; subst this
  intro A kp fz env s g ok R
  refine wpAny_Call_Name_kw (name_builtin ok R hx (by decide) (by decide +kernel : bootBuiltins "isinstance" = some (.builtin "isinstance")) ?_ rfl (by decide))
  refine Calls.callWith_builtin (noStar_all _ _ _ (by rw [List.all_cons, hs]; rfl)) ?_
  rw [starEach_cons hs, backTo_cons, starEach_cons (show isStar (.Name _ pt) = false from rfl), backTo_cons]
  refine Calls.evalArgs_plain (Calls.spliced_cons (h.run g ok R fun v s1 fz1 d H1 g1 R1 v1 q => ?_))
  obtain ⟨i, rfl, q⟩ := q
  simp only [V] at v1
  obtain ⟨u, rfl⟩ := v1
  refine Calls.spliced_cons (name_builtin ok R1 ht (by decide) (by decide +kernel : bootBuiltins "tuple" = some (.type "tuple")) ?_ rfl (by decide))
  refine Calls.spliced_nil ?_
  refine call_isinstance (isinstance_false_int (by decide +kernel) PySem.F.isi_meta_tuple PySem.F.sub_int_tuple) ?_
  exact ⟨fz1, .bool false, H1, g1, R1.tok (tk := s1.toks + 1), V.anyBool _ _, q⟩
theorem SA.pair {x y : Str} {px py pos : Pos} {k : Nat} {a b : AV} {Q : SM → HM → Prop} (hx : ownKind (sc.names.lookup x) = true) (hy : ownKind (sc.names.lookup y) = true) (q : Q (sup (sup σ x a) y b) H) :
    SA G n sc (.Tuple [.Name x px, .Name y py] k pos) (.tup [a, b]) σ H Q := SA.tuple rfl rfl ⟨rfl, SA.name hx ⟨rfl, SA.name hy q⟩⟩
theorem SA.setD {o i : Expr} {p : Pos} {dv : AV} {Q : SM → HM → Prop}
    (h : SE G n sc o σ H fun d H2 => SE G n sc i σ H2 fun di H3 => Ex4 fun r kvs k v => A6 (d = .ref r) (H3 r = some (.dict kvs)) (di = .int k) (dv = .int v) (lineOk kvs.length) (Q σ (up H3 r (.dict (dset kvs k v))))) :
    SA G n sc (.Subscript o i p) dv σ H Q := by
  intro A kp fz env s w g ok R v1
  rw [assign_Subscript]
  refine wpAny_bind (wpAny_holding (h.run g ok R fun vo s2 fz2 d H2 g2 R2 v2 h2 => ?_))
  refine wpAny_bind (wpAny_holding (h2.run g ok R2 fun vi s3 fz3 di H3 g3 R3 v3 h3 => ?_))
  obtain ⟨r, kvs, k, v, rfl, hr, rfl, rfl, hz, q⟩ := h3
  have w1 := (v1.mono g2.1).mono g3.1
  simp only [V] at w1 v2 v3
  obtain ⟨t1, rfl⟩ := w1
  obtain ⟨t3, rfl⟩ := v3
  subst v2
  refine wpAny_bind (wpAny_standAt (wpAny_bind (wpAny_holding (set_dict R3 hr hz fun h' tk R4 => wpAny_release' ?_))))
  exact ⟨fz3, σ, _, g2.trans g3, R4, q⟩
end


section
variable {G : GC} {n : Nat} {sc : Scope} {σ : SM} {H : HM}

/-! strings -/
theorem SV2.strs {t : Value → Value → Sem Value} {d : AV} {x y : Str} {Q : AV → HM → Prop}
    (h : ∀ (A : Around) (s : Shared) (t1 t2 : Tok) (P : Value → Shared → Prop), A.handled = none → (∀ v tk, (∀ fz, V fz d v) → P v { s with toks := tk }) → wpAny (model G.prog G.w) A (t (.str x t1) (.str y t2)) P NoE s)
    (q : Q d H) : SV2 G n t (.str x) (.str y) H Q := by
  intro A kp fz env σ s va vb g ok R ha hb
  simp only [V] at ha hb
  obtain ⟨t1, rfl⟩ := ha
  obtain ⟨t2, rfl⟩ := hb
  exact h A s t1 t2 _ g.handled fun v tk hv => PV.now (R.tok (tk := tk)) (hv _) q
theorem SV2.eqS {x y : Str} {Q : AV → HM → Prop} (q : Q (.bool (x == y)) H) : SV2 G n (compareOp .Eq) (.str x) (.str y) H Q := .strs (d := .bool _) (fun _ s _ _ _ _ k => PyProof.Rows.eq_str (k _ s.toks (V.anyBool _))) q
theorem SV2.neS {x y : Str} {Q : AV → HM → Prop} (q : Q (.bool (x != y)) H) : SV2 G n (compareOp .NotEq) (.str x) (.str y) H Q := .strs (d := .bool _) (fun _ s _ _ _ _ k => PyProof.Rows.ne_str (k _ s.toks (V.anyBool _))) q
theorem SV2.addS {x y : Str} {Q : AV → HM → Prop} (hz : lineOk (x.length + y.length)) (q : Q (.str (x ++ y)) H) : SV2 G n (binaryOp .Add) (.str x) (.str y) H Q :=
  .strs (d := .str _) (fun _ s _ _ _ _ k => PyProof.Rows.add_str (fun t' tk => k _ tk (V.anyStr _ _)) hz.le) q

theorem op_strLen {x : Str} {Q : AV → HM → Prop} (hz : lineOk x.length) (q : Q (.int x.length) H) : SVL G n (fun vs => PySem.call (.builtin "len") vs) [.str x] H Q := by
  intro A kp fz env σ s vs g ok R hv
  obtain ⟨v, rfl, hx⟩ := hv.single
  simp only [V] at hx
  obtain ⟨t, rfl⟩ := hx
  have e : (2 : Int) ^ 63 = 9223372036854775808 := by decide
  unfold lineOk at hz
  exact PyProof.Rows.len_str (by rw [e]; lia) (PV.now (R.tok (tk := s.toks + 1 + 1)) (V.anyInt _ _ _) q)
theorem op_strItem {x : Str} {i c : Nat} {Q : AV → HM → Prop} (hz : lineOk x.length) (hc : x.cps[i]? = some c) (q : Q (.str ⟨#[c]⟩) H) : SV2 G n getItem (.str x) (.int i) H Q := by
  intro A kp fz env σ s va vb g ok R ha hb
  simp only [V] at ha hb
  obtain ⟨t, rfl⟩ := ha
  obtain ⟨u, rfl⟩ := hb
  have hi : i < x.cps.size := (Array.getElem?_eq_some_iff.mp hc).1
  have hi' : i < x.length := hi
  unfold lineOk at hz
  have e : (2 : Int) ^ 63 = 9223372036854775808 := by decide
  refine PyProof.Rows.getItem_str (c := c) ?_ (StrLaws.at_nonneg (by lia) (by simpa using hc)) (PV.now (R.tok (tk := s.toks + 1)) (V.anyStr _ _ _) q)
  rw [e, Bool.or_eq_false_iff]
  exact ⟨decide_eq_false (by lia), decide_eq_false (by lia)⟩
theorem op_strCut {x : Str} {lo hi : Option Int} {Q : AV → HM → Prop} (hz : lineOk (StrLaws.sliceText x lo hi).length) (q : Q (.str (StrLaws.sliceText x lo hi)) H) : SVS G n (.str x) lo hi none H Q := by
  intro A kp fz env σ s vo sl pl pu ps g ok R hv hs e1 e2 e3
  simp only [V] at hv
  obtain ⟨t, rfl⟩ := hv
  cases ps with
  | some p => simp at e3
  | none =>
  refine wpAny_getItem_str_slice (l := pl) (u := pu) (st := none) hs rfl ?_
  subst e1 e2
  unfold sliceMade
  have e : slicePicked x pl pu none = Builtin.Str.strSliceIndices (pl.map (·.1)) (pu.map (·.1)) 1 x.length := rfl
  rw [e]
  have e4 : StrLaws.sliceText x (pl.map (·.1)) (pu.map (·.1)) = if ((1 : Int) == 1 && (Builtin.Str.strSliceIndices (pl.map (·.1)) (pu.map (·.1)) 1 x.length).length == x.length) = true then x else ⟨((Builtin.Str.strSliceIndices (pl.map (·.1)) (pu.map (·.1)) 1 x.length).filterMap (x.cps[·]?)).toArray⟩ := rfl
  rw [e4] at q hz
  by_cases hc : ((1 : Int) == 1 && (Builtin.Str.strSliceIndices (pl.map (·.1)) (pu.map (·.1)) 1 x.length).length == x.length) = true
  · rw [if_pos hc] at q hz
    have hc2 : ((((none : Option (Int × Tok)).map (·.1)).getD 1 == 1 && (Builtin.Str.strSliceIndices (pl.map (·.1)) (pu.map (·.1)) 1 x.length).length == x.length)) = true := hc
    rw [if_pos hc2]
    exact PV.now R (V.anyStr _ _ _) q
  · rw [if_neg hc] at q hz
    have hc2 : ¬ ((((none : Option (Int × Tok)).map (·.1)).getD 1 == 1 && (Builtin.Str.strSliceIndices (pl.map (·.1)) (pu.map (·.1)) 1 x.length).length == x.length)) = true := hc
    rw [if_neg hc2]
    refine ⟨hz.le, ?_⟩
    exact PV.now (R.tok (tk := s.toks + 1)) (V.anyStr _ _ _) q

theorem SE.strItem {value slice : Expr} {pos : Pos} {Q : AV → HM → Prop} (h : SE G n sc value σ H fun d H1 => SE G n sc slice σ H1 fun e H2 => Ex1 fun x => Ex2 fun (i c : Nat) => A5 (d = .str x) (e = .int i) (lineOk x.length) (x.cps[i]? = some c) (Q (.str ⟨#[c]⟩) H2)) :
    SE G n sc (.Subscript value slice pos) σ H Q := by
  refine SE.sub (T := "str") PySem.F.slot_str_getitem.lookup (h.mono fun d H1 h1 => h1.mono ?_)
  rintro e H2 ⟨x, i, c, rfl, rfl, hz, hx, q⟩
  exact ⟨rfl, op_strItem hz hx q⟩
theorem SE.strCut {value : Expr} {lower upper : Option Expr} {p pos : Pos} {Q : AV → HM → Prop} (h : SE G n sc value σ H fun d H1 => SEo G n sc lower σ H1 fun lo H2 => SEo G n sc upper σ H2 fun hi H3 => Ex1 fun x => A3 (d = .str x) (lineOk (StrLaws.sliceText x lo hi).length) (Q (.str (StrLaws.sliceText x lo hi)) H3)) :
    SE G n sc (.Subscript value (.Slice lower upper none p) pos) σ H Q := by
  have monoO : ∀ {e : Option Expr} {H : HM} {Q Q' : Option Int → HM → Prop}, (∀ i H, Q i H → Q' i H) → SEo G n sc e σ H Q → SEo G n sc e σ H Q' := by
    intro e H Q Q' k h
    cases e with
    | none => exact k _ _ h
    | some e => exact SE.mono h fun d H1 ⟨i, e, q⟩ => ⟨i, e, k _ _ q⟩
  refine SE.cut (T := "str") PySem.F.slot_str_getitem.lookup (h.mono fun d H1 h1 => monoO (fun lo H2 h2 => monoO (fun hi H3 h3 => SEo.none ?_) h2) h1)
  obtain ⟨x, rfl, hz, q⟩ := h3
  exact ⟨rfl, op_strCut hz q⟩

/-- str of an int -/
theorem SE.strInt {f : Str} {e : Expr} {p pos : Pos} {Q : AV → HM → Prop} (hf : (f == ("str" : Str)) = true) (hx : sc.names.lookup f = some .globalImplicit) (hs : isStar e = false)
    (h : SE G n sc e σ H fun d H1 => Ex1 fun i => A3 (d = .int i) (i.natAbs < 1000) (Q (.str (Str.ofString (toString i))) H1)) : SE G n sc (.Call (.Name f p) [e] [] pos) σ H Q := by
  have := eq_of_beq hf; subst this
  intro A kp fz env s g ok R
  refine wpAny_Call_Name_kw (name_builtin ok R hx (by decide) (by decide +kernel : bootBuiltins "str" = some (.type "str")) ?_ rfl (by decide))
  have hargs : SEs G n sc [e] [] σ H fun ds H1 => Ex1 fun i => A3 (ds = [.int i]) (i.natAbs < 1000) (Q (.str (Str.ofString (toString i))) H1) := by
    refine ⟨hs, h.mono ?_⟩
    rintro d H1 ⟨i, rfl, h1, h2⟩
    exact ⟨i, rfl, h1, h2⟩
  refine PySem.callWith_type (noStar_all _ _ _ (by rw [List.all_cons, hs]; rfl)) (hargs.args g ok R fun vs s1 fz1 ds H1 g1 R1 v1 q => ?_)
  obtain ⟨i, rfl, hi, q⟩ := q
  obtain ⟨v, rfl, hv⟩ := v1.single
  simp only [V] at hv
  obtain ⟨t, rfl⟩ := hv
  refine PySem.P.str_of_int ?_ ⟨fz1, _, H1, g1, R1.tok (tk := s1.toks + 1), V.anyStr _ _ _, q⟩
  by_cases h0 : i.natAbs = 0
  · rw [h0]; decide
  · exact (Nat.log2_lt h0).mpr (Nat.lt_of_lt_of_le hi (by decide))

/-- startswith and endswith -/
noncomputable def hasHead (x y : Str) : Bool := 0 + y.length ≤ x.length && Builtin.Str.subAt x y 0
noncomputable def hasTail (x y : Str) : Bool := 0 + y.length ≤ x.length && Builtin.Str.subAt x y (x.length - y.length)
theorem SE.heads {o arg : Expr} {name : Str} {apos pos : Pos} {Q : AV → HM → Prop} (hn : (name == ("startswith" : Str)) = true) (hb : ∀ env : Env, attributeBase o name env (eval o env) = eval o env) (hl : (apos.endLine == pos.line) = true) (hs : isStar arg = false)
    (h : SE G n sc o σ H fun d H1 => Ex1 fun x => A2 (d = .str x) (SE G n sc arg σ H1 fun e H2 => Ex1 fun y => A2 (e = .str y) (Q (.bool (hasHead x y)) H2))) : SE G n sc (.Call (.Attribute o name apos) [arg] [] pos) σ H Q := by
  have := eq_of_beq hn; subst this
  refine SE.meth (T := "str") (id := "str.startswith") PySem.F.plainAttrs_str PySem.F.slot_str_startswith PySem.F.type_str_startswith (h.mono ?_) hb (by simp [hs]) rfl hl
  rintro d H1 ⟨x, rfl, h1⟩
  refine ⟨rfl, hs, h1.mono ?_⟩
  rintro e H2 ⟨y, rfl, q⟩
  intro A kp fz env σ s vs g ok R hv
  obtain ⟨v1, v2, rfl, hx, hy⟩ := hv.two
  simp only [V] at hx hy
  obtain ⟨t1, rfl⟩ := hx
  obtain ⟨t2, rfl⟩ := hy
  exact call_gives PySem.F.slot_str_startswith (typeIs_str s x t1) PySem.F.entry_str_startswith (PySem.F.args_str_startswith_2 _ _) (gives_str_startswith x y t1 t2) (PV.now R (V.anyBool _ _) q)
theorem SE.tails {o arg : Expr} {name : Str} {apos pos : Pos} {Q : AV → HM → Prop} (hn : (name == ("endswith" : Str)) = true) (hb : ∀ env : Env, attributeBase o name env (eval o env) = eval o env) (hl : (apos.endLine == pos.line) = true) (hs : isStar arg = false)
    (h : SE G n sc o σ H fun d H1 => Ex1 fun x => A2 (d = .str x) (SE G n sc arg σ H1 fun e H2 => Ex1 fun y => A2 (e = .str y) (Q (.bool (hasTail x y)) H2))) : SE G n sc (.Call (.Attribute o name apos) [arg] [] pos) σ H Q := by
  have := eq_of_beq hn; subst this
  refine SE.meth (T := "str") (id := "str.endswith") PySem.F.plainAttrs_str PySem.F.slot_str_endswith PySem.F.type_str_endswith (h.mono ?_) hb (by simp [hs]) rfl hl
  rintro d H1 ⟨x, rfl, h1⟩
  refine ⟨rfl, hs, h1.mono ?_⟩
  rintro e H2 ⟨y, rfl, q⟩
  intro A kp fz env σ s vs g ok R hv
  obtain ⟨v1, v2, rfl, hx, hy⟩ := hv.two
  simp only [V] at hx hy
  obtain ⟨t1, rfl⟩ := hx
  obtain ⟨t2, rfl⟩ := hy
  exact call_gives PySem.F.slot_str_endswith (typeIs_str s x t1) PySem.F.entry_str_endswith (PySem.F.args_str_endswith_2 _ _) (gives_str_endswith x y t1 t2) (PV.now R (V.anyBool _ _) q)
end


noncomputable def fmtA : Str := ⟨#[37, 115, 58, 37, 100, 40, 37, 115, 41]⟩
noncomputable def fmtB : Str := ⟨#[123, 37, 115, 125]⟩
theorem fmt3 (P N : Str) (k : Int) (t t1 t2 t3 : Tok) (b : Addr) (hP : P.length ≤ 100000) (hN : N.length ≤ 100000) (hk0 : 0 ≤ k) (hk1 : k < 10 ^ 10) :
    Meets (Builtin.«str.__mod__» ⟨[.str ⟨#[37, 115, 58, 37, 100, 40, 37, 115, 41]⟩ t, .ref b], []⟩) (fun _ R s => IsTup s.heap b #[.str P t1, .int k t2, .str N t3] ∧
      ∀ t' k', R (.ok (.ret (.str (P ++ Str.ofString ":" ++ Str.ofString (toString k) ++ Str.ofString "(" ++ N ++ Str.ofString ")") t'))) { s with toks := k' }) := by
  kpt_run
theorem fmt1 (y : Str) (t u : Tok) (hy : y.length ≤ 1000000) :
    Meets (Builtin.«str.__mod__» ⟨[.str ⟨#[123, 37, 115, 125]⟩ t, .str y u], []⟩) (fun _ R s => ∀ t' k, R (.ok (.ret (.str (Str.ofString "{" ++ y ++ Str.ofString "}") t'))) { s with toks := k }) := by
  kpc_run_s


section
variable {prog : Program} {w : World} {A : Around} {E : Value → Shared → Prop} {s : Shared}
theorem sliceApplied_to2 {sl : Addr} {u : Tok} {Q : Int × Int × Nat → Shared → Prop} (hs : s.heap.IsSliceOf sl .none (.int 2 u) .none) (h : Q (0, 1, 2) s) :
    wpAny (model prog w) A (Builtin.Slice.sliceApplied (.ref sl) (pure (3 : Int))) Q E s := by
  obtain ⟨os, hos, hcs, hds⟩ := id hs
  unfold Builtin.Slice.sliceApplied Builtin.Slice.sliceFields
  refine wpAny_bind (wpAny_bind (wpAny_field hos hds (x := .none) rfl (wpAny_bind (wpAny_field hos hds (x := .int 2 u) rfl (wpAny_bind (wpAny_field hos hds (x := .none) rfl (wpAny_pure ?_)))))))
  refine wpAny_bind (PyProof.Rows.slicePart_none ?_)
  show wpAny _ _ (if ((1 : Int) == 0) = true then _ else _) _ _ s
  rw [if_neg (by decide)]
  refine wpAny_bind (PyProof.Rows.slicePart_none (wpAny_bind (PyProof.Rows.slicePart_int (wpAny_bind (wpAny_pure ?_)))))
  show wpAny _ _ (match Builtin.Slice.sliceAdjust none (some (2 : Int)) 1 (3 : Int) with | (lo, hi) => pure (lo, (1 : Int), Builtin.Slice.slicePlaces lo hi 1)) _ _ s
  rw [show Builtin.Slice.sliceAdjust none (some (2 : Int)) 1 (3 : Int) = (0, 2) by decide]
  show wpAny _ _ (pure ((0 : Int), (1 : Int), Builtin.Slice.slicePlaces (0 : Int) 2 1)) _ _ s
  rw [show Builtin.Slice.slicePlaces (0 : Int) 2 1 = 2 by decide]
  exact wpAny_pure h
theorem getItem_tuple3_to2 {t sl : Addr} {a b c : Value} {u : Tok} {Q : Value → Shared → Prop} (ht : IsTup s.heap t #[a, b, c]) (hs : s.heap.IsSliceOf sl .none (.int 2 u) .none)
    (h : Q (.ref s.heap.objs.size) { s with heap := s.heap.push { cls := .type "tuple", data := .seq #[a, b] } }) : wpAny (model prog w) A (getItem (.ref t) (.ref sl)) Q E s := by
  obtain ⟨os, hos, hcs, hds⟩ := id hs
  have hTs : s.TypeIs (.ref sl) "slice" := ⟨os, hos, hcs⟩
  unfold getItem
  try with_reducible refine wpAny_holding ?_
  first | refine wpAny_bind (wpAny_pure ?_) | skip
  refine wpAny_bind (wpAny_sequenceKey ht.typeIs (by decide) ?_)
  refine wpAny_bind (wpAny_callSpecial?_slot (name := Str.ofString "__getitem__") ht.typeIs slot_tuple_getitem
    (wpAny_call_entry slot_tuple_getitem ht.typeIs entry_tuple_getitem ?_ (args_tuple_getitem _ _)))
  show wpAny _ _ (Builtin.Tuple.tupleItemsOf (.ref t) >>= _) _ _ s
  refine wpAny_bind (PyProof.Rows.tupleItemsOf_ ht ?_)
  refine wpAny_bind (wpAny_typeOf hTs ?_)
  rw [if_pos (by decide)]
  refine wpAny_bind (sliceApplied_to2 hs ?_)
  show wpAny _ _ (if ((0 : Int) == 0 && (1 : Int) == 1 && (2 : Nat) == 3) = true then _ else _) _ _ s
  rw [if_neg (by decide)]
  rw [show ((List.range 2).filterMap fun (k : Nat) => (#[a, b, c] : Array Value)[((0 : Int) + (k : Int) * 1).toNat]?).toArray = #[a, b] from rfl]
  have hsz : sizeOk (.seq #[a, b]) := by show 2 ≤ sizeLine; rw [sizeLine_eq]; decide
  first
    | exact wpAny_bind (m := Builtin.Tuple.tupleExact _) (wpAny_newObj_type (wpAny_pure ⟨_, rfl, wpAny_pure h⟩) hsz)
    | exact wpAny_bind (m := Builtin.Tuple.tupleExact _) (wpAny_newObj_type (wpAny_bind (wpAny_pure (wpAny_pure ⟨_, rfl, wpAny_pure h⟩))) hsz)
    | exact wpAny_bind (wpAny_bind (m := Builtin.Tuple.tupleExact _) (wpAny_newObj_type (wpAny_pure (wpAny_pure ⟨_, rfl, wpAny_pure h⟩)) hsz))
    | exact wpAny_bind (wpAny_bind (m := Builtin.Tuple.tupleExact _) (wpAny_newObj_type (wpAny_pure ⟨_, rfl, wpAny_pure h⟩) hsz))
end

section
variable {G : GC} {n : Nat} {sc : Scope} {σ : SM} {H : HM}

theorem SE.tupItem {value slice : Expr} {pos : Pos} {Q : AV → HM → Prop} (h : SE G n sc value σ H fun d H1 => SE G n sc slice σ H1 fun e H2 => Ex2 fun ds x => Ex1 fun (i : Nat) => A5 (d = .tup ds) (e = .int i) (lineOk ds.length) (ds[i]? = some x) (Q x H2)) :
    SE G n sc (.Subscript value slice pos) σ H Q := by
  refine SE.sub (T := "tuple") PyProof.Rows.slot_tuple_getitem.lookup (h.mono fun d H1 h1 => h1.mono ?_)
  rintro e H2 ⟨ds, x, i, rfl, rfl, hz, hx, q⟩
  exact ⟨rfl, op_tupItem hz hx q⟩
theorem SE.tupTo2 {value upper : Expr} {p pos : Pos} {Q : AV → HM → Prop} (h : SE G n sc value σ H fun d H1 => SE G n sc upper σ H1 fun e H2 => Ex3 fun a b c => A3 (d = .tup [a, b, c]) (e = .int 2) (Q (.tup [a, b]) H2)) :
    SE G n sc (.Subscript value (.Slice none (some upper) none p) pos) σ H Q := by
  refine SE.cut (T := "tuple") PyProof.Rows.slot_tuple_getitem.lookup (h.mono fun d H1 h1 => SEo.none (SEo.some (h1.mono ?_)))
  rintro e H2 ⟨a, b, c, rfl, rfl, q⟩
  refine ⟨2, rfl, SEo.none ⟨rfl, ?_⟩⟩
  intro A kp fz env σ s vo sl pl pu ps g ok R hv hs e1 e2 e3
  obtain ⟨t, ws, rfl, ht, hws, _⟩ := V.tupAt R.h hv
  obtain ⟨x, y, z, rfl, hx, hy, hz⟩ := hws.three
  cases pl with
  | some p => simp at e1
  | none =>
  cases ps with
  | some p => simp at e3
  | none =>
  cases pu with
  | none => simp at e2
  | some p =>
  obtain ⟨i, u⟩ := p
  simp at e2; subst e2
  refine getItem_tuple3_to2 (a := x) (b := y) (c := z) (by simpa using ht) hs ?_
  have hn : s.heap.get? s.heap.objs.size = none := Heap.get?_none_of_le (Nat.le_refl _)
  obtain ⟨g2, R2⟩ := R.newF (tk := s.toks) (h' := s.heap.push { cls := .type "tuple", data := .seq #[x, y] }) (ob := { cls := .type "tuple", data := .seq #[x, y] }) hn (fun b o e => Heap.get?_push_of_some _ e) (Heap.get?_push_size _ rfl)
  refine ⟨_, .tup [a, b], H2, g2, R2, ?_, q⟩
  simp only [V]
  exact ⟨_, [x, y], _, 0, rfl, up_self .., rfl, rfl, rfl, VL.cons (hx.mono g2.1) (VL.one (hy.mono g2.1))⟩

theorem SV2.fmt3 {P N : Str} {k : Nat} {Q : AV → HM → Prop} (hP : P.length ≤ 100000) (hN : N.length ≤ 100000) (hk : k < 1000)
    (q : Q (.str (P ++ Str.ofString ":" ++ Str.ofString (toString (k : Int)) ++ Str.ofString "(" ++ N ++ Str.ofString ")")) H) :
    SV2 G n (binaryOp .Mod) (.str ⟨#[37, 115, 58, 37, 100, 40, 37, 115, 41]⟩) (.tup [.str P, .int (k : Nat), .str N]) H Q := by
  intro A kp fz env σ s va vb g ok R ha hb
  simp only [V] at ha
  obtain ⟨t, rfl⟩ := ha
  obtain ⟨b, ws, rfl, ht, hws, _⟩ := V.tupAt R.h hb
  obtain ⟨x, y, z, rfl, hx, hy, hz⟩ := hws.three
  simp only [V] at hx hy hz
  obtain ⟨t1, rfl⟩ := hx
  obtain ⟨t2, rfl⟩ := hy
  obtain ⟨t3, rfl⟩ := hz
  have hT : s.TypeIs (.ref b) "tuple" := by
    obtain ⟨o, ho, hc, _⟩ := ht
    exact ⟨o, ho, hc⟩
  refine KPt.bin_left (T := "str") (U := "tuple") (op := .Mod) (by decide) (typeIs_str s _ t) hT PySem.F.fills_str_mod KPt.fills_tuple PySem.F.slot_str_mod
    (call_meets PySem.F.slot_str_mod (typeIs_str s _ t) PySem.F.entry_str_mod (PySem.F.args_str_mod_2 _ _) (Mine.fmt3 P N k t t1 t2 t3 b hP hN (by lia) (by lia)) ⟨by simpa using ht, fun t' k' => ⟨(fun e => nomatch e), ?_⟩⟩)
  exact PV.now (R.tok (tk := k')) (V.anyStr _ _ _) q
theorem SV2.fmt1 {y : Str} {Q : AV → HM → Prop} (hy : y.length ≤ 100000) (q : Q (.str (Str.ofString "{" ++ y ++ Str.ofString "}")) H) :
    SV2 G n (binaryOp .Mod) (.str ⟨#[123, 37, 115, 125]⟩) (.str y) H Q := by
  refine .strs (d := .str (Str.ofString "{" ++ y ++ Str.ofString "}")) (fun A s t1 t2 P hh k => ?_) q
  exact KPc.mod_str (T := fun y => Str.ofString "{" ++ y ++ Str.ofString "}") rfl (by lia) (fun z hz => Mine.fmt1 z t1 t2 hz) (fun t' tk => k _ tk (V.anyStr _ _))
end


theorem lookup_rev_none {x : Str} : ∀ (ns : List Str) (vs : List Value), x ∉ ns → (ns.zip vs).reverse.lookup x = none
  | [], _, _ => rfl
  | _ :: _, [], _ => rfl
  | n :: ns, v :: vs, h => by
    rw [List.zip_cons_cons, List.reverse_cons, List.lookup_append, lookup_rev_none ns vs fun q => h (.tail _ q)]
    have : (x == n) = false := beq_eq_false_iff_ne.mpr fun e => h (e ▸ .head _)
    simp [List.lookup_cons, this]
theorem lookup_rev_zip {fz : FM} {x : Str} : ∀ (ns : List Str) {ds : List AV} {vs : List Value} {d : AV}, ns.Nodup → VL fz ds vs → (ns.zip ds).lookup x = some d → ∃ v, (ns.zip vs).reverse.lookup x = some v ∧ V fz d v
  | [], _, _, _, _, _, h => by simp at h
  | _ :: _, [], _, _, _, _, h => by simp at h
  | n :: ns, d' :: ds, vs, d, hn, hv, h => by
    simp only [VL] at hv
    obtain ⟨v, r, rfl, v1, v2⟩ := hv
    obtain ⟨hn1, hn2⟩ := List.nodup_cons.mp hn
    rw [List.zip_cons_cons, List.lookup_cons] at h
    rw [List.zip_cons_cons, List.reverse_cons, List.lookup_append]
    cases hb : x == n with
    | true =>
      rw [hb] at h; cases h
      have := eq_of_beq hb; subst this
      rw [lookup_rev_none ns r hn1]
      exact ⟨v, by simp, v1⟩
    | false =>
      rw [hb] at h
      obtain ⟨w, e1, e2⟩ := lookup_rev_zip ns hn2 v2 h
      exact ⟨w, by rw [e1]; rfl, e2⟩

section
variable {G : GC} {n : Nat} {sc : Scope} {σ : SM} {H : HM}
/-- as SC; and behind it the count of made things is not naught -/
noncomputable def SCp (G : GC) (n : Nat) (f : Str) (ds : List AV) (H : HM) (Q : AV → HM → Prop) : Prop :=
  ∃ fa o fd, G.mg f = some (.ref fa) ∧ G.h₀.get? fa = some o ∧ o.data = .func fd ∧ ∀ (A : Around) (kp fz : FM) (s : Shared) (vs : List Value), Good n A → G.Ok → RelH G kp fz H s → VL fz ds vs →
    wpAny (model G.prog G.w) A (call (.ref fa) vs) (fun v s' => A2 (0 < s'.toks) (Ex3 fun fz' d H' => A4 (Grow kp fz fz') (RelH G kp fz' H' s') (V fz' d v) (Q d H'))) NoE s

theorem SC.of_bodyP {f : Str} {names : List Str} {dds ds : List AV} {body : List Stmt} {H : HM} {Q : AV → HM → Prop} (F : Fn G f names dds ds.length sc body)
    (h : SS G n sc body (argsOf names (ds ++ dds)) H fun af σ' H' => match af with | .ret d => Q d H' | _ => Q .none H')
    (hnd : names.Nodup) (hkind : (names.all fun x => sc.names.lookup x == some .local) = true) (hcell : (sc.names.all fun p => p.2 != .cell) = true) (hne : 0 < names.length ∧ 0 < ds.length) (hk : sc.kind = .function) (hco : sc.isCoroutine = false) (hgen : sc.isGenerator = false) :
    SCp G (n + 1) f ds H Q := by
  obtain ⟨fa, o, fd, dvals, h1, h2, h3, h4, h5, h6, h7, h8, h9, h10, h11⟩ := F.ex
  refine ⟨fa, o, fd, h1, h2, h3, fun A kp fz s vs g ok R hv => ?_⟩
  subst h5
  have hold : ∀ b o, G.h₀.get? b = some o → s.heap.get? b = some o := fun b o e => R.kept _ _ (R.base _ _ e)
  have hd := g.depth
  refine wpAny_call (codeAny_mono (R := fun r s' => Ex1 fun v => A3 (r = .ok (.ret v)) (0 < s'.toks) (Ex3 fun fz' d H' => A4 (Grow kp fz fz') (RelH G kp fz' H' s') (V fz' d v) (Q d H'))) ?_ fun r s' hr => by obtain ⟨v, rfl, hr, hr2⟩ := hr; exact ⟨hr, hr2⟩)
  refine codeAny_call_function (by show A.depth < 1000; lia) (hold _ _ h2) h3 hco hgen h4 (h9.keeps hold) (h11 s vs hold hv.length _ _ _ _ ?_)
  rw [h6, h7, h8]
  refine wpAny_newFunctionEnv (fun x hx e => by have := List.all_eq_true.mp hcell x hx; simp [e] at this) (fun x hx => by
    have := List.all_eq_true.mp hkind _ (mem_zip_fst _ _ _ hx)
    exact eq_of_beq this) (fun h' hns hsb => ?_) hk
  have hlen : 0 < (names.zip (vs ++ dvals)).length := by
    rw [List.length_zip, List.length_append, hv.length]; lia
  generalize he : newEnv fd.scope s.heap.objs.size mainGlobals [] (fd.qualname ++ ".<locals>.") (some fa) fd.code none builtinsNs = env at *
  have hes : env.scope = fd.scope := by rw [← he]; rfl
  have hec : env.cells = [] := by rw [← he]; rfl
  have heL : env.locals = s.heap.objs.size := by rw [← he]; rfl
  have hkeep : ∀ b o, s.heap.get? b = some o → h'.get? b = some o := fun b o e => hsb.extBut b o (Nat.ne_of_lt (Heap.lt_size e)) (Heap.get?_push_of_some _ e)
  refine ⟨(ok.nolimit.keeps hold).keeps hkeep, codeAny_func ?_⟩
  have eok : EnvOk G fd.scope env := ⟨ok, hes, hk, by rw [← he]; rfl, by rw [← he]; rfl⟩
  have hVL : VL fz (ds ++ dds) (vs ++ dvals) := hv.append (h10 fz)
  have hKo : ∀ y, env.kindOf y = fd.scope.names.lookup y := fun y => by unfold Env.kindOf; rw [hes]
  have above : ∀ c, s.heap.objs.size ≤ c → kp c = none ∧ fz c = none ∧ H c = none := fun c hc => R.fresh (Heap.get?_none_of_le hc)
  have nocell : ∀ y, fd.scope.names.lookup y ≠ some .cell := fun y e => by
    have := List.all_eq_true.mp hcell _ (mem_of_lookup e)
    simp at this
  have RR : Rel G kp fz env (argsOf names (ds ++ dds)) H { s with heap := h', toks := s.toks + (names.zip (vs ++ dvals)).length } := by
    refine ⟨R.keeps hkeep, ⟨⟨_, by rw [heL]; exact hns, fun y d hy hk' => lookup_rev_zip names hnd hVL hy⟩, fun y d hy hk' => ?_, fun y hy => ?_, fun y z c hy hz => ?_, above _ (by rw [heL]; exact Nat.le_refl _)⟩⟩
    · have hmem : y ∈ names := by
        obtain ⟨p, hp, hq⟩ : ∃ p ∈ names.zip (ds ++ dds), p.1 = y := ⟨_, mem_of_lookup hy, rfl⟩
        exact hq ▸ mem_zip_fst _ _ _ hp
      have := eq_of_beq (List.all_eq_true.mp hkind _ hmem)
      rw [hKo, this] at hk'
      rcases hk' with hk' | hk' <;> cases hk'
    · rw [hKo] at hy; exact absurd hy (nocell y)
    · rw [hec] at hy; cases hy
  have main := wpAny_toks_of (A := A.deeper env) (n := 1) (s := { s with heap := h', toks := s.toks + (names.zip (vs ++ dvals)).length }) (by show 1 ≤ s.toks + _; lia) (h.run g.deeper eok RR (P := fun fl s' => Ex1 fun v => A2 ((Except.ok (Flow.ret (match fl with | .ret v => v | _ => .none)) : Result) = .ok (.ret v)) (Ex3 fun fz' d H' => A4 (Grow kp fz fz') (RelH G kp fz' H' s') (V fz' d v) (Q d H'))) fun fl s2 fz2 af σ2 H2 g2 R2 hfv q => by
    cases af with
    | ret d => obtain ⟨v, rfl, hfv⟩ := hfv; exact ⟨v, rfl, fz2, d, H2, g2, R2.h, hfv, q⟩
    | next => simp only [FV] at hfv; subst hfv; exact ⟨_, rfl, fz2, .none, H2, g2, R2.h, by simp only [V], q⟩
    | brk => simp only [FV] at hfv; subst hfv; exact ⟨_, rfl, fz2, .none, H2, g2, R2.h, by simp only [V], q⟩
    | cont => simp only [FV] at hfv; subst hfv; exact ⟨_, rfl, fz2, .none, H2, g2, R2.h, by simp only [V], q⟩)
  refine wpAny_mono main (fun fl s2 h => ?_) fun _ _ x => x.2.elim
  obtain ⟨h1, v, e, h2⟩ := h
  exact ⟨v, e, h1, h2⟩

noncomputable def replS (x y z : Str) : Str := if ((Builtin.Str.occurrences x y 0 x.length (x.length + 1)).isEmpty || (y.length == 0 && z.length == 0)) = true then x else Builtin.Str.glued z (Builtin.Str.partsBetween x (Builtin.Str.occurrences x y 0 x.length (x.length + 1)) y.length)
/-- replace upon what a def answers -/
theorem SE.repl {f : Str} {args : List Expr} {name y z : Str} {p p2 apos pos q1 q2 : Pos} {k1 k2 : Nat} {Q : AV → HM → Prop} (hfn : IsFn G f) (hx : sc.names.lookup f = some .globalImplicit) (hd : (f == ("__debug__" : Str)) = false) (hn : (name == ("replace" : Str)) = true)
    (hb : ∀ env : Env, attributeBase (.Call (.Name f p) args [] p2) name env (eval (.Call (.Name f p) args [] p2) env) = eval (.Call (.Name f p) args [] p2) env) (hl : (apos.endLine == pos.line) = true) (hyz : (y == z) = false)
    (h : SEs G n sc args [] σ H fun ds H1 => SCp G n f ds noH fun d _ => Ex1 fun x => A4 (d = .str x) (Builtin.Str.tooLong (x.length + (Builtin.Str.occurrences x y 0 x.length (x.length + 1)).length * z.length) = false) (lineOk (replS x y z).length) (Q (.str (replS x y z)) H1)) :
    SE G n sc (.Call (.Attribute (.Call (.Name f p) args [] p2) name apos) [.Constant (.str y) k1 q1, .Constant (.str z) k2 q2] [] pos) σ H Q := by
  have := eq_of_beq hn; subst this
  intro A kp fz env s g ok R
  obtain ⟨fa, o, fd, h1, h2, h3⟩ := hfn
  refine wpAny_Call_method_late (hb env) rfl hl rfl ?_
  refine wpAny_Call_Name_kw (name_global ok R hx h1 ?_ hd)
  refine Calls.callWith_function (o := o) (fd := fd) (h.args g ok R fun vs s1 fz1 ds H1 g1 R1 v1 h1' => ?_)
  obtain ⟨fa', o', fd', e1, _, _, hc⟩ := h1'
  rw [h1] at e1; cases e1
  refine ⟨⟨R1.h.kept _ _ (R1.h.base _ _ h2), h3⟩, ?_⟩
  have hs : Sub noH H1 := fun _ _ e => by cases e
  refine wpAny_mono (hc A _ fz1 s1 vs g ok.ok (R1.handDown hs) v1) (fun v s2 h4 => ?_) fun _ _ x => x.elim
  obtain ⟨ht, fz2, d, H2, g2, R2, v2, x, rfl, hlong, hz, q⟩ := h4
  obtain ⟨g3, R3⟩ := R1.takeBack hs R2 g2
  have R4 := R3.weak (Sub.refl _) (merge_none _ _ fun a m e => by
    cases q : H2 a with
    | none => rfl
    | some m' =>
      obtain ⟨_, _, _, h3, _⟩ := R2.heap _ _ q
      obtain ⟨ob, e1, _⟩ := R1.h.heap _ _ e
      rw [downK_none (s := s1) (Hp := noH) rfl, e1] at h3; cases h3)
  simp only [V] at v2
  obtain ⟨t, rfl⟩ := v2
  refine ⟨"str", "str.replace", PySem.F.plainAttrs_str, PySem.F.slot_str_replace, PySem.F.type_str_replace, typeIs_str _ x t, (fun a e => nomatch e), ?_⟩
  refine Calls.callWith_builtin rfl ?_
  rw [starEach_cons (show isStar (.Constant (.str y) k1 q1) = false from rfl), backTo_cons, starEach_cons (show isStar (.Constant (.str z) k2 q2) = false from rfl), backTo_cons]
  refine Calls.evalArgs_plain (Calls.spliced_cons (wpAny_Constant_str (k := k1) (pos := q1) (Calls.spliced_cons (wpAny_Constant_str (k := k2) (pos := q2) (Calls.spliced_nil ?_)))))
  have hne : ∀ m : Nat, 0 < m → (m == 0) = false := fun m h => by simp; lia
  refine call_gives PySem.F.slot_str_replace (typeIs_str _ x t) PySem.F.entry_str_replace (PySem.F.args_str_replace_3 _ _ _) (gives_str_replace x y z t s2.toks (s2.toks + 1) fun _ => ⟨?_, ?_, hyz, hlong⟩) ?_
  · rw [hne _ ht, hne (s2.toks + 1) (Nat.succ_pos _)]; rfl
  · simp
  · unfold replS at q hz
    split
    · rename_i hc; rw [if_pos hc] at q
      exact ⟨fz2, _, H1, g1.trans g3, R4.tok (tk := s2.toks + 1 + 1), V.anyStr _ _ _, q⟩
    · rename_i hc; rw [if_neg hc] at q hz
      exact ⟨hz.le, fz2, _, H1, g1.trans g3, R4.tok (tk := s2.toks + 1 + 1 + 1), V.anyStr _ _ _, q⟩
end


/-! the written pattern, run upon bytes -/
namespace Rx
open PySem.Builtin PySem.Builtin.Re
theorem q1 (b : Array UInt8) (t : Tok) : Bytes.bufferQuiet? "_sre" (.bytes b t) = pure (some b) := by kernel_rfl
theorem q2 (b : Array UInt8) (t : Tok) : asStr? (.bytes b t) = pure none := by kernel_rfl
theorem q3 (b : Array UInt8) (t : Tok) : isInstance (.bytes b t) (.type "bytes") = pure true := by kernel_rfl
theorem q4 (b : Array UInt8) (t : Tok) : Bytes.takeBufferQuiet? "bytes.join" (.bytes b t) 0 = pure (some (b, none)) := by kernel_rfl
theorem q5 (b : Array UInt8) (t : Tok) : specialOf (.bytes b t) "__call__" = pure none := by kernel_rfl
theorem q7 (v : Value) (c : Array UInt8) (u : Tok) : reNamed "re.Pattern.sub" "sub" ["repl", "string", "count"] 2 [v, .bytes c u] [] = pure [some v, some (.bytes c u), none] := by kernel_rfl
theorem q8 (b : Array UInt8) (t : Tok) : Bytes.bufferQuiet? "re.Pattern.sub" (.bytes b t) = pure (some b) := by kernel_rfl
theorem q9 (b : Array UInt8) (t : Tok) : typeOf (.bytes b t) = pure (.type "bytes") := by kernel_rfl
theorem entry_loop : entryFor table "re.Pattern.sub.loop" = some Builtin.«re.Pattern.sub.loop» := by first | exact entryFor_of_tree (by kernel_rfl) | exact entryFor_of_fast (by kernel_rfl)
theorem entry_sub : entryFor table "re.Pattern.sub" = some Builtin.«re.Pattern.sub» := by first | exact entryFor_of_tree (by kernel_rfl) | exact entryFor_of_fast (by kernel_rfl)
theorem entry_join : entryFor table "bytes.join" = some Builtin.«bytes.join» := by first | exact entryFor_of_tree (by kernel_rfl) | exact entryFor_of_fast (by kernel_rfl)
theorem entry_count : entryFor table "bytes.count" = some Builtin.«bytes.count» := by first | exact entryFor_of_tree (by kernel_rfl) | exact entryFor_of_fast (by kernel_rfl)
theorem slot_join : Slot "bytes" "join" "bytes.join" :=
  .of (owner := "bytes") (n := "join") (by rw [typeLookup_type, builtinLookup_eq_fast]; kernel_rfl) (by decide +kernel) (by decide +kernel) (by decide +kernel)
    (by first | exact .inl (by decide +kernel) | exact .inr (by decide +kernel)) (by rw [isSubtype_type]; kernel_rfl)
theorem slot_count : Slot "bytes" "count" "bytes.count" :=
  .of (owner := "bytes") (n := "count") (by rw [typeLookup_type, builtinLookup_eq_fast]; kernel_rfl) (by decide +kernel) (by decide +kernel) (by decide +kernel)
    (by first | exact .inl (by decide +kernel) | exact .inr (by decide +kernel)) (by rw [isSubtype_type]; kernel_rfl)
theorem slot_sub : Slot "re.Pattern" "sub" "re.Pattern.sub" :=
  .of (owner := "re.Pattern") (n := "sub") (by rw [typeLookup_type, builtinLookup_eq_fast]; kernel_rfl) (by decide +kernel) (by decide +kernel) (by decide +kernel)
    (by first | exact .inl (by decide +kernel) | exact .inr (by decide +kernel)) (by rw [isSubtype_type]; kernel_rfl)
theorem type_sub : typeOf (.builtin "re.Pattern.sub") = pure (.type "method_descriptor") := by show builtinType _ = _; rw [builtinType_eq_fast]; kernel_rfl
theorem type_count : typeOf (.builtin "bytes.count") = pure (.type "method_descriptor") := by show builtinType _ = _; rw [builtinType_eq_fast]; kernel_rfl
theorem plainAttrs_pat : PlainAttrs "re.Pattern" :=
  ⟨⟨"object.__getattribute__", by rw [typeLookup_type, builtinLookup_eq_fast]; kernel_rfl, by decide +kernel⟩, by rw [typeLookup_type, builtinLookup_eq_fast]; kernel_rfl⟩
theorem args_join (a b : Value) : argsOk "bytes.join" ⟨[a, b], []⟩ := by unfold argsOk; kernel_rfl
theorem args_count (a b : Value) : argsOk "bytes.count" ⟨[a, b], []⟩ := by unfold argsOk; kernel_rfl
theorem args_sub (a b c : Value) : argsOk "re.Pattern.sub" ⟨[a, b, c], []⟩ := by unfold argsOk; kernel_rfl
theorem count_11 (t u : Tok) : Builtin.«bytes.count» ⟨[.bytes #[40] t, .bytes #[40] u], []⟩ = retInt 1 := by kernel_rfl
theorem count_12 (t u : Tok) : Builtin.«bytes.count» ⟨[.bytes #[40] t, .bytes #[41] u], []⟩ = retInt 0 := by kernel_rfl
theorem count_21 (t u : Tok) : Builtin.«bytes.count» ⟨[.bytes #[41] t, .bytes #[40] u], []⟩ = retInt 0 := by kernel_rfl
theorem count_22 (t u : Tok) : Builtin.«bytes.count» ⟨[.bytes #[41] t, .bytes #[41] u], []⟩ = retInt 1 := by kernel_rfl

noncomputable def qcode : Array Nat := #[14, 8, 1, 2, 4294967295, 1, 1, 34, 0, 16, 34, 28, 22, 0, 4294967295, 7, 11, 13, 7, 21, 16, 34, 16, 92, 0, 15, 8, 6, 16, 92, 2, 15, 2, 0, 1, 16, 34, 1]
noncomputable def driveP : Nat → Sre.M → Option Sre.M
  | 0, _ => none
  | k + 1, m => if (m.runFor reTurnSteps).outcome.isSome then some (m.runFor reTurnSteps) else driveP k (m.runFor reTurnSteps)
inductive Got where
  | stuck | none | found (m : Sre.M)
noncomputable def nextP (text : Array Nat) (start : Nat) (must : Bool) : Got := match driveP 400 (Sre.forSearch qcode text 0 start text.size must) with
  | some m => match m.outcome with
    | some .matched => .found m
    | some .failed => .none
    | _ => .stuck
  | none => .stuck
noncomputable def loopP : Nat → Array Nat → Nat → Nat → Bool → List (Array UInt8) → Option (List (Array UInt8))
  | 0, _, _, _, _, _ => none
  | k + 1, text, done, start, must, ps => match nextP text start must with
    | .stuck => none
    | .found m => loopP k text m.handed m.handed (m.handed == m.start) ((if done < m.start then ps ++ [(text.extract done m.start).map (·.toUInt8)] else ps) ++ [#[]])
    | .none => some (if done < text.size then ps ++ [(text.extract done text.size).map (·.toUInt8)] else ps)

section
variable {M : Model} {A : Around} {E : Value → Shared → Prop} {s : Shared}
theorem drive_ok : ∀ (k T : Nat) (m m' : Sre.M) {Q : Sre.M → Shared → Prop}, driveP k m = some m' → k ≤ T → Q m' s → wpAny M A (reDrive T m) Q E s
  | 0, _, _, _, _, h, _, _ => by cases h
  | k + 1, 0, _, _, _, _, h, _ => by lia
  | k + 1, T + 1, m, m', Q, h, hk, q => by
    unfold driveP at h
    unfold reDrive
    split at h
    · rename_i h1
      cases h
      refine wpAny_ite ?_
      rw [if_pos h1]
      exact wpAny_pure q
    · rename_i h1
      refine wpAny_ite ?_
      rw [if_neg h1]
      exact wpAny_bind (wpAny_rule (drive_ok k T _ m' h (by lia) q))
theorem runToEnd_ok {m₀ m : Sre.M} {Q : Option Sre.M → Shared → Prop} {k : Nat} (hk : k ≤ 400) (h : driveP k m₀ = some m) (q : match m.outcome with | some .matched => Q (some m) s | some .failed => Q none s | _ => False) : wpAny M A (reRunToEnd m₀) Q E s := by
  unfold reRunToEnd
  refine wpAny_bind (drive_ok k (2 ^ 64) m₀ m h (Nat.le_trans hk (by decide)) ?_)
  refine wpAny_bind (wpAny_forIn_list _ (fun _ _ s' => s' = s) _ (fun x rest b s' h => ?_) (fun b s' h => ?_) _ _ rfl)
  · subst h
    refine wpAny_ite ?_
    split
    · exact wpAny_bind (wpAny_rule (wpAny_pure rfl))
    · first | exact wpAny_pure rfl | exact wpAny_bind (wpAny_pure (wpAny_pure rfl))
  · subst h
    revert q
    cases m.outcome with
    | none => exact fun q => q.elim
    | some o => cases o with
      | matched => exact fun q => wpAny_pure q
      | failed => exact fun q => wpAny_pure q
      | stuck w => exact fun q => q.elim
end
end Rx

namespace Rx
open PySem.Builtin PySem.Builtin.Re

noncomputable def BW : List (Array UInt8) → List Value → Prop
  | [], ws => ws = []
  | p :: ps, ws => ∃ t r, ws = .bytes p t :: r ∧ BW ps r
theorem BW.length : ∀ {ps : List (Array UInt8)} {ws : List Value}, BW ps ws → ws.length = ps.length
  | [], _, h => by subst h; rfl
  | p :: ps, _, ⟨t, r, e, h⟩ => by subst e; simp [BW.length h]
theorem BW.append : ∀ {ps qs : List (Array UInt8)} {ws vs : List Value}, BW ps ws → BW qs vs → BW (ps ++ qs) (ws ++ vs)
  | [], _, _, _, h, k => by subst h; exact k
  | p :: ps, _, _, _, ⟨t, r, e, h⟩, k => by subst e; exact ⟨t, _, rfl, h.append k⟩
theorem BW.get : ∀ {ps : List (Array UInt8)} {ws : List Value} {i : Nat} {p : Array UInt8}, BW ps ws → ps[i]? = some p → ∃ t, ws[i]? = some (.bytes p t)
  | [], _, i, p, h, e => by simp at e
  | q :: ps, _, 0, p, ⟨t, r, e1, h⟩, e => by subst e1; simp at e; subst e; exact ⟨t, rfl⟩
  | q :: ps, _, i + 1, p, ⟨t, r, e1, h⟩, e => by subst e1; simpa using h.get (by simpa using e)
noncomputable def BL (h : Heap) (P : Addr) (ps : List (Array UInt8)) : Prop := ∃ ws k, h.get? P = some { cls := .type "list", data := .seq (List.toArray ws) k } ∧ BW ps ws

section
variable {prog : Program} {w : World} {A : Around} {E : Value → Shared → Prop} {s : Shared}
theorem letGo_ok {taken : List (Value × Option Value)} {keep : List Value} {Q : Unit → Shared → Prop} (h : ∀ p ∈ taken, p.2 = none) (q : Q () s) : wpAny (model prog w) A (Bytes.joinLetGo taken keep) Q E s := by
  induction taken with
  | nil => exact wpAny_pure q
  | cons p r ih =>
    obtain ⟨x, u⟩ := p
    have hu : u = none := h (x, u) (.head _)
    subst hu
    unfold Bytes.joinLetGo
    first
      | exact wpAny_bind (wpAny_letGo (ih fun p hp => h p (.tail _ hp)))
      | exact wpAny_bind (wpAny_pure (wpAny_bind (wpAny_letGo (ih fun p hp => h p (.tail _ hp)))))
theorem join_tree {P : Addr} {ps : List (Array UInt8)} {t : Tok} {Q : Fin → Shared → Prop} (hP : BL s.heap P ps) (h2 : 2 ≤ ps.length) (h3 : ps.length ≤ 100) (hz : (Bytes.joined #[] ps).size ≤ sizeLine)
    (h4 : Bytes.tooLong (ps.toArray.foldl (· + ·.size) ((#[] : Array UInt8).size * (ps.toArray.size - 1))) = false)
    (q : ∀ t' tk, Q (.done (.ret (.bytes (Bytes.joined #[] ps) t'))) { s with toks := tk }) : wpAny (model prog w) A (Builtin.«bytes.join» ⟨[.bytes #[] t, .ref P], []⟩) Q E s := by
  obtain ⟨ws, k, ho, hw⟩ := hP
  have hlen := hw.length
  have hT : s.TypeIs (.ref P) "list" := ⟨_, ho, rfl⟩
  obtain ⟨x, y, r, rfl⟩ : ∃ x y r, ws = x :: y :: r := by
    match ws, hlen with
    | [], e => simp at e; lia
    | [_], e => simp at e; lia
    | x :: y :: r, _ => exact ⟨x, y, r, rfl⟩
  unfold Builtin.«bytes.join» Bytes.joinM
  refine wpAny_bind (wpAny_of_eq (a := (Value.bytes #[] t, Value.ref P)) (by first | rfl | kernel_rfl) ?_)
  dsimp only
  refine wpAny_bind ?_
  unfold Bytes.joinItems
  refine wpAny_bind (wpAny_typeOf hT ?_)
  rw [if_pos (by decide)]
  refine wpAny_pure ?_
  refine wpAny_bind (wpAny_seqItems ho rfl ?_)
  dsimp only
  rw [if_pos (by decide)]
  refine wpAny_bind ?_
  rw [KPc.range_list]
  refine wpAny_forIn_list _ (fun rest (b : Array (Array UInt8) × List (Value × Option Value)) s' => s' = s ∧ (∀ p ∈ b.2, p.2 = none ∧ p.1.onHeap = false) ∧ ∃ i, rest = List.range' i (ps.length - i) 1 ∧ i ≤ ps.length ∧ b.1 = (ps.take i).toArray) _ ?_ ?_ _ _
    ⟨rfl, (fun p hp => nomatch hp), 0, by simp [← hlen], Nat.zero_le _, rfl⟩
  · rintro i' rest ⟨parts, taken⟩ s' ⟨rfl, ht, i, hr, hi, hp⟩
    have hi' : i < ps.length := by
      rcases Nat.lt_or_ge i ps.length with h | h
      · exact h
      · rw [Nat.sub_eq_zero_of_le h] at hr; cases hr
    obtain ⟨m, hm⟩ : ∃ m, ps.length - i = m + 1 := ⟨ps.length - i - 1, by lia⟩
    rw [hm, List.range'_succ] at hr
    cases hr
    obtain ⟨u, hu⟩ := hw.get (List.getElem?_eq_getElem hi')
    refine wpAny_bind (wpAny_seqItems ho rfl ?_)
    have hnow : (x :: y :: r).toArray.getD i' Value.none = .bytes ps[i'] u := by
      rw [Array.getD_eq_getD_getElem?, List.getElem?_toArray, hu]; rfl
    have hany : ((Bytes.Kind.bytes == Bytes.Kind.bytearray) || (parts, taken).snd.any fun x => x.fst.onHeap) = false := by
      refine Bool.or_eq_false_iff.2 ⟨by decide, ?_⟩
      rw [List.any_eq_false]
      intro p hp
      rw [(ht p hp).2]; decide
    dsimp only

    simp only [hnow]
    first
      | rw [if_neg (by rw [hany]; decide)]
      | rw [if_neg (by intro h; rw [show (Bytes.Kind.bytes == Bytes.Kind.bytearray) = false by decide] at h; have := hany; simp_all)]
    refine wpAny_bind (wpAny_holding (wpAny_of_eq (a := some (ps[i'], none)) (q4 _ _) ?_))
    dsimp only
    refine wpAny_bind (wpAny_seqItems ho rfl ?_)
    dsimp only
    rw [if_neg (by simp)]
    refine wpAny_pure ⟨rfl, ?_, i' + 1, ?_, hi', ?_⟩
    · intro p hp
      rcases List.mem_append.1 hp with hp | hp
      · exact ht p hp
      · cases hp with
        | head => exact ⟨rfl, rfl⟩
        | tail _ hp => cases hp
    · congr 1; lia
    · dsimp only
      have hp : parts = (List.take i' ps).toArray := hp
      rw [hp, List.push_toArray, List.take_succ_eq_append_getElem hi']
  · rintro ⟨parts, taken⟩ s' ⟨rfl, ht, i, hr, hi, hp⟩
    have hi : i = ps.length := by
      rcases Nat.lt_or_ge i ps.length with h | h
      · obtain ⟨m, hm⟩ : ∃ m, ps.length - i = m + 1 := ⟨ps.length - i - 1, by lia⟩
        rw [hm, List.range'_succ] at hr; cases hr
      · lia
    subst hi
    rw [List.take_length] at hp
    dsimp only at hp ht ⊢
    subst hp
    refine wpAny_bind (wpAny_of_eq (a := (#[] : Array UInt8)) rfl ?_)
    rw [h4]
    rw [if_neg (by decide)]
    refine wpAny_bind ?_
    refine wpAny_mkBytes ?_ (by exact hz)
    refine wpAny_bind (wpAny_holding (wpAny_point ?_))
    refine wpAny_bind (letGo_ok (fun p hp => (ht p hp).1) ?_)
    exact wpAny_pure (q _ _)
theorem join_one {P : Addr} {p : Array UInt8} {t : Tok} {Q : Fin → Shared → Prop} (hP : BL s.heap P [p]) (q : ∀ t', Q (.done (.ret (.bytes p t'))) s) :
    wpAny (model prog w) A (Builtin.«bytes.join» ⟨[.bytes #[] t, .ref P], []⟩) Q E s := by
  obtain ⟨ws, k, ho, u, r, rfl, hr⟩ := hP
  cases (show r = [] from hr)
  have hT : s.TypeIs (.ref P) "list" := ⟨_, ho, rfl⟩
  unfold Builtin.«bytes.join» Bytes.joinM
  refine wpAny_bind (wpAny_of_eq (a := (Value.bytes #[] t, Value.ref P)) (by first | rfl | kernel_rfl) ?_)
  dsimp only
  refine wpAny_bind ?_
  unfold Bytes.joinItems
  refine wpAny_bind (wpAny_typeOf hT ?_)
  rw [if_pos (by decide)]
  refine wpAny_pure ?_
  refine wpAny_bind (wpAny_seqItems ho rfl ?_)
  dsimp only
  rw [if_pos (by decide)]
  refine wpAny_bind (wpAny_of_eq (q9 _ _) ?_)
  rw [if_pos (by decide)]
  refine wpAny_bind (wpAny_rule ?_)
  exact wpAny_bind (wpAny_pure (wpAny_pure (q _)))
structure PatAt (h : Heap) (p : Addr) : Prop where
  is : ∃ o fs c oc items k, h.get? p = some o ∧ o.cls = .type "re.Pattern" ∧ o.data = .fields fs ∧ reRawNat (fs.getD 6 .none) = 1 ∧ reRawNat (fs.getD 2 .none) = 0 ∧ fs.getD 5 .none = .ref c
    ∧ h.get? c = some oc ∧ oc.data = .seq items k ∧ (items.map reRawOf).map (·.toNat) = qcode
theorem PatAt.mono {h h' : Heap} {p : Addr} (x : PatAt h p) (k : ∀ b o, h.get? b = some o → h'.get? b = some o) : PatAt h' p := by
  obtain ⟨o, fs, c, oc, items, n, h1, h2, h3, h4, h5, h6, h7, h8, h9⟩ := x
  exact ⟨o, fs, c, oc, items, n, k _ _ h1, h2, h3, h4, h5, h6, k _ _ h7, h8, h9⟩
theorem target_ok {p : Addr} {b : Array UInt8} {t : Tok} {Q : ReTarget → Shared → Prop} (hp : PatAt s.heap p)
    (q : Q { pattern := .ref p, string := .bytes b t, code := qcode, text := b.map (·.toNat), kind := 1, groups := 0, pos := 0, lim := (b.map (·.toNat)).size } s) :
    wpAny (model prog w) A (reWholeTarget (.ref p) (.bytes b t)) Q E s := by
  obtain ⟨o, fs, c, oc, items, n, h1, h2, h3, h4, h5, h6, h7, h8, h9⟩ := hp
  unfold reWholeTarget
  refine wpAny_bind (wpAny_fieldsOf h1 h3 ?_)
  unfold reTextOf
  refine wpAny_bind ?_
  refine wpAny_bind (wpAny_of_eq (q2 _ _) ?_)
  dsimp only
  refine wpAny_bind (wpAny_of_eq (q1 _ _) ?_)
  dsimp only
  refine wpAny_pure ?_
  dsimp only
  rw [h4]
  rw [if_neg (by decide), if_neg (by decide)]
  refine wpAny_bind ?_
  unfold reNoCollectionInside
  rw [if_pos (by decide)]
  refine wpAny_bind (wpAny_of_eq (q3 _ _) ?_)
  rw [if_neg (by decide)]
  refine wpAny_pure ?_
  refine wpAny_bind ?_
  unfold reRawItems
  rw [h6]
  refine wpAny_bind (wpAny_seqItems h7 h8 ?_)
  refine wpAny_pure ?_
  refine wpAny_pure ?_
  rw [h5]
  have : ((some items).getD #[]).map reRawOf = items.map reRawOf := rfl
  rw [this, h9]
  exact q
end
end Rx

namespace Rx
open PySem.Builtin PySem.Builtin.Re
section
variable {prog : Program} {w : World}
theorem next_found {M : Model} {A : Around} {E : Value → Shared → Prop} {s : Shared} {text : Array Nat} {start : Nat} {must : Bool} {m : Sre.M} {p v : Value} {Q : Option Sre.M → Shared → Prop} (h : nextP text start must = .found m) (q : Q (some m) s) :
    wpAny M A (reNextFound { pattern := p, string := v, code := qcode, text := text, kind := 1, groups := 0, pos := 0, lim := text.size } start must) Q E s := by
  unfold nextP at h
  split at h
  · rename_i m' e
    split at h
    · rename_i e2
      cases h
      refine runToEnd_ok (k := 400) (Nat.le_refl _) e ?_
      rw [e2]; exact q
    · cases h
    · cases h
  · cases h
theorem next_none {M : Model} {A : Around} {E : Value → Shared → Prop} {s : Shared} {text : Array Nat} {start : Nat} {must : Bool} {p v : Value} {Q : Option Sre.M → Shared → Prop} (h : nextP text start must = .none) (q : Q none s) :
    wpAny M A (reNextFound { pattern := p, string := v, code := qcode, text := text, kind := 1, groups := 0, pos := 0, lim := text.size } start must) Q E s := by
  unfold nextP at h
  split at h
  · rename_i m' e
    split at h
    · cases h
    · rename_i e2
      refine runToEnd_ok (k := 400) (Nat.le_refl _) e ?_
      rw [e2]; exact q
    · cases h
  · cases h
theorem plain_loop : plainId "re.Pattern.sub.loop" = true := by decide +kernel
theorem BL.push {h : Heap} {P : Addr} {ps : List (Array UInt8)} {p : Array UInt8} {t : Tok} (x : BL h P ps) : BL (h.update P (Obj.mapSeq (·.push (.bytes p t)))) P (ps ++ [p]) := by
  obtain ⟨ws, k, ho, hw⟩ := x
  exact ⟨ws ++ [.bytes p t], (if ((ws.toArray.push (.bytes p t)).size == ws.toArray.size) = true then k else k + 1), (Heap.get?_update_self _ ho rfl).trans (by simp only [Obj.mapSeq, List.push_toArray]), hw.append ⟨t, [], rfl, rfl⟩⟩
theorem loop_ok {p : Addr} {b : Array UInt8} {tb tr : Tok} {P : Addr} {h0 : Heap} {R : Result → Shared → Prop} (hp : PatAt h0 p) (hP : h0.get? P = none) (hb : b.size ≤ 1000) :
    ∀ (k : Nat) (done start : Nat) (must : Bool) (ps ps' : List (Array UInt8)) (n : Int) (A : Around) (s : Shared), loopP k (b.map (·.toNat)) done start must ps = some ps' → ps.length + 2 * k ≤ 90 →
      (1 ≤ ps'.length ∧ (Bytes.joined #[] ps').size ≤ sizeLine ∧ Bytes.tooLong (ps'.toArray.foldl (· + ·.size) ((#[] : Array UInt8).size * (ps'.toArray.size - 1))) = false) →
      (∀ c o, h0.get? c = some o → s.heap.get? c = some o) → BL s.heap P ps →
      (∀ s' t', s'.gens = s.gens → s'.drawn = s.drawn → s'.os = s.os → (∀ c o, h0.get? c = some o → s'.heap.get? c = some o) → R (.ok (.ret (.bytes (Bytes.joined #[] ps') t'))) s') →
      codeAny (model prog w) A (.builtin "re.Pattern.sub.loop" ⟨[.ref p, .bytes b tb, .bytes #[] tr, rawInt 0, rawInt 0, rawInt n, rawInt done, rawInt start, .bool must, .ref P, .bool false], []⟩) R s := by
  intro k
  induction k with
  | zero => intro _ _ _ _ _ _ _ _ h; cases h
  | succ k ih =>
    intro done start must ps ps' n A s h hk hf hs hbl q
    refine codeAny_builtin entry_loop ?_
    rw [Around.under_plainId plain_loop _]
    unfold Builtin.«re.Pattern.sub.loop»
    dsimp only [rawInt]
    refine wpAny_bind (target_ok (hp.mono hs) ?_)
    rw [if_pos (by decide)]
    refine wpAny_bind ?_
    unfold reLiteralCannotBeTurned
    refine wpAny_bind (wpAny_of_eq (q2 _ _) ?_)
    rw [if_pos (by decide)]
    refine wpAny_bind (wpAny_of_eq (q3 _ _) ?_)
    rw [if_neg (by decide)]
    refine wpAny_pure ?_
    rw [if_neg (by simp)]
    unfold loopP at h
    refine wpAny_bind ?_
    cases hn : nextP (b.map (·.toNat)) start must with
    | stuck => rw [hn] at h; cases h
    | found m =>
      rw [hn] at h
      dsimp only at h
      have step : ∀ (ps1 : List (Array UInt8)) (s1 : Shared), ps1 = (if done < m.start then ps ++ [((b.map (·.toNat)).extract done m.start).map (·.toUInt8)] else ps) → BL s1.heap P ps1 → s1.gens = s.gens → s1.drawn = s.drawn → s1.os = s.os → (∀ c o, h0.get? c = some o → s1.heap.get? c = some o) →
          wpAny (model prog w) A.in1 (updateSeq P (·.push (.bytes #[] tr)) >>= fun _ => again (.builtin "re.Pattern.sub.loop" ⟨[.ref p, .bytes b tb, .bytes #[] tr, rawInt 0, rawInt 0, rawInt (n + 1), rawInt m.handed, rawInt m.handed, .bool (m.handed == m.start), .ref P, .bool false], []⟩))
            (fun fin s' => match fin with | .done f => R (.ok f) s' | .again c' => c'.quiet = true ∧ codeAny (model prog w) A c' R s') (fun e s' => R (.error e) s') s1 := by
        intro ps1 s1 e1 hb1 g1 d1 o1 k1
        have hl1 : ps1.length ≤ ps.length + 1 := by subst e1; split <;> simp
        have hb2 := hb1
        obtain ⟨ws, c, ho, hw⟩ := hb2
        have hwl := hw.length
        refine wpAny_bind (wpAny_updateSeq ho rfl ?_ (by simp only [List.size_toArray, hwl]; exact Nat.le_trans (show ps1.length ≤ 100 by lia) (by decide)) (by simp only [Array.size_push, List.size_toArray, hwl]; exact Nat.le_trans (show ps1.length + 1 ≤ 100 by lia) (by decide)))
        refine wpAny_pure ⟨Code.quiet_builtin _ (by decide +kernel), ?_⟩
        refine ih m.handed m.handed (m.handed == m.start) (ps1 ++ [#[]]) ps' (n + 1) A _ ?_ ?_ hf ?_ ?_ ?_
        · rw [e1]; exact h
        · simp; lia
        · intro c' o e
          have hne : c' ≠ P := by rintro rfl; rw [hP] at e; cases e
          have := k1 _ _ e
          rw [← this]
          exact Heap.get?_update_ne _ _ _ _ hne
        · exact hb1.push
        · intro s' t' a1 a2 a3 a4
          exact q s' t' (a1.trans g1) (a2.trans d1) (a3.trans o1) a4
      refine next_found (by simpa using hn) ?_
      dsimp only
      by_cases hd : done < m.start
      · rw [if_pos (by simpa using hd)]
        refine wpAny_bind ?_
        unfold reSlice
        rw [if_neg (by decide)]
        refine wpAny_mkBytes ?_ (by simp only [Array.size_map, Array.size_extract]; exact Nat.le_trans (show _ ≤ 1000 by lia) (by decide))
        obtain ⟨ws, c, ho, hw⟩ := hbl
        have hwl := hw.length
        refine wpAny_bind (wpAny_updateSeq ho rfl ?_ (by simp only [List.size_toArray, hwl]; exact Nat.le_trans (show ps.length ≤ 100 by lia) (by decide)) (by simp only [Array.size_push, List.size_toArray, hwl]; exact Nat.le_trans (show ps.length + 1 ≤ 100 by lia) (by decide)))
        refine wpAny_bind (wpAny_pure ?_)
        rw [if_pos (show ((Value.bytes #[] tr != Value.none) = true) by rfl)]
        refine step _ _ (by rw [if_pos hd]; simp) (BL.push ⟨ws, c, ho, hw⟩) rfl rfl rfl fun c' o e => ?_
        have hne : c' ≠ P := by rintro rfl; rw [hP] at e; cases e
        rw [← hs _ _ e]
        exact Heap.get?_update_ne _ _ _ _ hne
      · rw [if_neg (by simpa using hd)]
        refine wpAny_bind (wpAny_pure ?_)
        rw [if_pos (show ((Value.bytes #[] tr != Value.none) = true) by rfl)]
        exact step _ _ (by rw [if_neg hd]) hbl rfl rfl rfl hs
    | none =>
      rw [hn] at h
      dsimp only at h
      have fin : ∀ (s1 : Shared), ps'.length ≤ 100 → BL s1.heap P ps' → s1.gens = s.gens → s1.drawn = s.drawn → s1.os = s.os → (∀ c o, h0.get? c = some o → s1.heap.get? c = some o) →
          wpAny (model prog w) A.in1 (reSlice (b.map (·.toNat)) 1 0 0 >>= fun joiner => seqItems? (.ref P) >>= fun __do_lift =>
            if (__do_lift.getD #[]).isEmpty = true then do
                let text ← pure joiner
                if false = true then do
                    let __do_lift ← holding [text] do
                          let __do_lift ← mkInt n
                          newTuple [text, __do_lift]
                    ret __do_lift
                  else ret text
              else do
                let text ← call (Value.builtin (if ((1 : Nat) == 0) = true then "str.join" else "bytes.join")) [joiner, Value.ref P]
                if false = true then do
                    let __do_lift ← holding [text] do
                          let __do_lift ← mkInt n
                          newTuple [text, __do_lift]
                    ret __do_lift
                  else ret text)
            (fun fin s' => match fin with | .done f => R (.ok f) s' | .again c' => c'.quiet = true ∧ codeAny (model prog w) A c' R s') (fun e s' => R (.error e) s') s1 := by
        intro s1 hle hb1 g1 d1 o1 k1
        refine wpAny_bind ?_
        unfold reSlice
        rw [if_neg (by decide)]
        refine wpAny_mkBytes ?_ (by simp)
        have hb2 := hb1
        obtain ⟨ws, c, ho, hw⟩ := hb2
        have hwl := hw.length
        refine wpAny_bind (wpAny_seqItems ho rfl ?_)
        rw [if_neg (by
          have : ws ≠ [] := by rintro rfl; simp at hwl; lia
          simpa using this)]
        rw [if_neg (show ¬ (((1 : Nat) == 0) = true) by decide)]
        have he : ((b.map (·.toNat)).extract 0 0).map (·.toUInt8) = (#[] : Array UInt8) := by simp
        rw [he]
        refine wpAny_bind (wpAny_call_entry (T := "bytes") slot_join rfl entry_join ?_ (args_join _ _))
        rcases Nat.lt_or_ge ps'.length 2 with h2 | h2
        · obtain ⟨x, rfl⟩ : ∃ x, ps' = [x] := by
            match ps', hf.1, h2 with
            | [x], _, _ => exact ⟨x, rfl⟩
          refine join_one hb1 fun t' => ⟨_, rfl, ?_⟩
          refine wpAny_pure ?_
          have := q { s1 with toks := s1.toks + 1 } t' g1 d1 o1 k1
          simpa [Bytes.joined] using this
        · refine join_tree hb1 h2 (by lia) hf.2.1 hf.2.2 fun t' tk => ⟨_, rfl, ?_⟩
          refine wpAny_pure ?_
          exact q _ _ g1 d1 o1 k1
      refine next_none (by simpa using hn) ?_
      dsimp only
      by_cases hd : done < (b.map (·.toNat)).size
      · rw [if_pos hd] at h
        cases h
        rw [if_pos (by simpa using hd)]
        refine wpAny_bind ?_
        unfold reSlice
        rw [if_neg (by decide)]
        refine wpAny_mkBytes ?_ (by simp only [Array.size_map, Array.size_extract]; exact Nat.le_trans (show _ ≤ 1000 by lia) (by decide))
        obtain ⟨ws, c, ho, hw⟩ := hbl
        have hwl := hw.length
        refine wpAny_bind (wpAny_updateSeq ho rfl ?_ (by simp only [List.size_toArray, hwl]; exact Nat.le_trans (show ps.length ≤ 100 by lia) (by decide)) (by simp only [Array.size_push, List.size_toArray, hwl]; exact Nat.le_trans (show ps.length + 1 ≤ 100 by lia) (by decide)))
        refine fin _ (by simp; lia) (BL.push ⟨ws, c, ho, hw⟩) rfl rfl rfl fun c' o e => ?_
        have hne : c' ≠ P := by rintro rfl; rw [hP] at e; cases e
        rw [← hs _ _ e]
        exact Heap.get?_update_ne _ _ _ _ hne
      · rw [if_neg hd] at h
        cases h
        rw [if_neg (by simpa using hd)]
        exact fin _ (by lia) hbl rfl rfl rfl hs
end
end Rx

namespace Rx
open PySem.Builtin PySem.Builtin.Re
noncomputable def encB (x : Str) : Array UInt8 := (x.cps.extract 0 x.cps.size).foldl (fun acc y => acc ++ (Str.utf8Of y).toArray) #[]
theorem e1 (x : Str) (t : Tok) : PySem.Builtin.Str.strSelf ⟨[.str x t], []⟩ = pure (.str x t, x, []) := by kernel_rfl
section
variable {M : Model} {A : Around} {E : Value → Shared → Prop} {s : Shared}
theorem encode_ok {x : Str} {t : Tok} {Q : Fin → Shared → Prop} (hx : x.cps.findIdx? Str.isSurrogate = none) (h1 : 1 ≤ x.length) (hz : (encB x).size ≤ sizeLine) (q : ∀ t' tk, Q (.done (.ret (.bytes (encB x) t'))) { s with toks := tk }) :
    wpAny M A (Builtin.«str.encode» ⟨[.str x t], []⟩) Q E s := by
  unfold Builtin.«str.encode»
  refine wpAny_bind (wpAny_of_eq (a := (Value.str x t, x, [])) (by first | rfl | kernel_rfl) ?_)
  dsimp only
  refine wpAny_bind (wpAny_of_eq (a := [none, none]) (by first | rfl | kernel_rfl) ?_)
  dsimp only
  refine wpAny_bind (wpAny_of_eq (a := none) (by first | rfl | kernel_rfl) ?_)
  refine wpAny_bind (wpAny_of_eq (a := none) (by first | rfl | kernel_rfl) ?_)
  refine wpAny_bind ?_
  unfold _codecs.encodeRoad
  have : (_codecs.normalName ((none : Option Str).getD "utf-8")).toString = "utf_8" := by first | rfl | kernel_rfl
  rw [this]
  show wpAny M A (_codecs.encodeNarrow "str.encode" _codecs.utf8Codec none (Value.str x t) x >>= fun b => mkBytes b) _ E s
  refine wpAny_bind ?_
  have fin : wpAny M A (mkBytes (encB x)) (fun a s' => wpAny M A (ret a) Q E s') E s := wpAny_mkBytes (wpAny_pure (q _ _)) (by exact hz)
  unfold _codecs.encodeNarrow
  dsimp only
  refine wpAny_bind ?_
  rw [KPc.range_list]
  refine wpAny_forIn_list _ (fun rest b s' => s' = s ∧ ((b = (0, #[], {}) ∧ rest ≠ []) ∨ b = (x.cps.size, encB x, {}))) _ ?_ ?_ _ _ ?_
  · intro j rest b s' hb
    obtain ⟨rfl, hb | hb⟩ := hb
    · obtain ⟨rfl, _⟩ := hb
      rw [if_neg (by decide)]
      dsimp only
      obtain ⟨c, hc⟩ : ∃ c, x.cps[0]? = some c := ⟨_, Array.getElem?_eq_getElem h1⟩
      rw [hc]
      dsimp only
      have hbad : _codecs.utf8Codec.bad = Str.isSurrogate := rfl
      have hno : ∀ c ∈ x.cps, Str.isSurrogate c = false := by simpa using hx
      have hc' : Str.isSurrogate c = false := hno c (Array.mem_of_getElem? hc)
      rw [hbad, hc', if_pos (by decide)]
      have he : x.cps.extract 0 = x.cps := by simp
      rw [he, hx]
      refine wpAny_pure ⟨rfl, .inr ?_⟩
      simp [encB, _codecs.utf8Codec]
    · subst hb
      dsimp only
      rw [if_neg (Nat.not_lt.2 hz)]
      rw [Array.getElem?_eq_none (Nat.le_refl _)]
      dsimp only
      exact wpAny_pure (wpAny_pure fin)
  · intro b s' hb
    obtain ⟨rfl, hb | hb⟩ := hb
    · exact absurd rfl hb.2
    · subst hb
      exact wpAny_pure fin
  · refine ⟨rfl, .inl ⟨rfl, ?_⟩⟩
    cases hx1 : x.length with
    | zero => lia
    | succ n => simp [List.range'_succ]
end
end Rx

namespace Rx
open PySem.Builtin PySem.Builtin.Re
section
variable {prog : Program} {w : World}
/-- what the pattern leaves of a text -/
noncomputable def left (b : Array UInt8) : Option (Array UInt8) := match loopP 40 (b.map (·.toNat)) 0 0 false [] with
  | some ps => if 1 ≤ ps.length && (Bytes.joined #[] ps).size ≤ sizeLine && !Bytes.tooLong (ps.toArray.foldl (· + ·.size) ((#[] : Array UInt8).size * (ps.toArray.size - 1))) && b.size ≤ 1000 then some (Bytes.joined #[] ps) else none
  | none => none
theorem sub_call {p : Addr} {b c : Array UInt8} {tb tr : Tok} {A : Around} {E : Value → Shared → Prop} {s : Shared} {Q : Value → Shared → Prop} (hp : PatAt s.heap p) (hl : left b = some c)
    (q : ∀ h' tk t', (∀ a o, s.heap.get? a = some o → h'.get? a = some o) → Q (.bytes c t') { s with heap := h', toks := tk }) :
    wpAny (model prog w) A (call (.builtin "re.Pattern.sub") [.ref p, .bytes #[] tr, .bytes b tb]) Q E s := by
  unfold left at hl
  split at hl
  · rename_i ps e
    split at hl
    · rename_i hc
      cases hl
      simp only [Bool.and_eq_true, decide_eq_true_eq, Bool.not_eq_true'] at hc
      obtain ⟨⟨⟨c1, c2⟩, c3⟩, c4⟩ := hc
      have hT : s.TypeIs (.ref p) "re.Pattern" := by
        obtain ⟨o, fs, c, oc, items, n, h1, h2, h3, _⟩ := hp
        exact ⟨o, h1, h2⟩
      refine wpAny_call (codeAny_call_builtin slot_sub.plain entry_sub (slot_sub.check _ _ _ _ _ _ _ _ hT (args_sub _ _ _) ?_))
      unfold Builtin.«re.Pattern.sub» reSubstitute
      dsimp only
      refine wpAny_bind (wpAny_of_eq (q7 _ _ _) ?_)
      dsimp only
      refine wpAny_bind (wpAny_pure ?_)
      refine wpAny_bind (wpAny_of_eq (q5 _ _) ?_)
      rw [if_neg (by decide)]
      refine wpAny_bind (wpAny_of_eq (q2 _ _) ?_)
      dsimp only
      refine wpAny_bind (wpAny_of_eq (q8 _ _) ?_)
      dsimp only
      refine wpAny_bind (wpAny_pure ?_)
      rw [if_neg (by decide), if_pos (by simp)]
      refine wpAny_bind (wpAny_pure ?_)
      dsimp only
      refine wpAny_bind (wpAny_holding (target_ok hp ?_))
      rw [if_neg (by decide)]
      refine wpAny_bind (wpAny_newList ?_ (by simp))
      refine wpAny_pure ⟨Code.quiet_builtin _ (by decide +kernel), ?_⟩
      have hP : s.heap.get? s.heap.objs.size = none := Heap.get?_none_of_le (Nat.le_refl _)
      refine loop_ok (h0 := s.heap) (ps := []) (ps' := ps) (k := 40) (done := 0) (start := 0) (must := false) (n := 0) (p := p) hp hP c4 A _ e (by simp) ⟨c1, c2, by simpa using c3⟩ (fun a o e => Heap.get?_push_of_some _ e) ⟨[], _, Heap.get?_push_size _ rfl, rfl⟩ ?_
      rintro ⟨h', g', d', tk, o'⟩ t' e1 e2 e3 k
      cases e1; cases e2; cases e3
      exact q h' tk t' k
    · cases hl
  · cases hl
end
end Rx
section
open Rx
variable {G : GC} {n : Nat} {sc : Scope} {σ : SM} {H : HM}
/-- `P.sub(b'', data)` where P is a written pattern under a global name -/
theorem SE.patSub {f name : Str} {a : Addr} {e : Expr} {k : Nat} {p apos pos q1 : Pos} {Q : AV → HM → Prop} (hg : G.mg f = some (.ref a)) (hx : sc.names.lookup f = some .globalImplicit) (hd : (f == ("__debug__" : Str)) = false) (hn : (name == ("sub" : Str)) = true)
    (hp : PatAt G.h₀ a) (hdict : ∀ o, G.h₀.get? a = some o → o.dict = none)
    (hb : ∀ env : Env, attributeBase (.Name f p) name env (eval (.Name f p) env) = eval (.Name f p) env) (hl : (apos.endLine == pos.line) = true) (hst : isStar e = false)
    (h : SE G n sc e σ H fun d H1 => Ex2 fun b c => A3 (d = .bytes b) (left b = some c) (Q (.bytes c) H1)) :
    SE G n sc (.Call (.Attribute (.Name f p) name apos) [.Constant (.bytes []) k q1, e] [] pos) σ H Q := by
  have := eq_of_beq hn; subst this
  intro A kp fz env s g ok R
  have hold : ∀ {s' : Shared} {fz : FM} {env : Env} {σ : SM} {H : HM}, Rel G kp fz env σ H s' → ∀ b o, G.h₀.get? b = some o → s'.heap.get? b = some o := fun R b o e => R.h.kept _ _ (R.h.base _ _ e)
  refine wpAny_Call_method_late (hb env) ?_ hl rfl ?_
  · rw [starEach_cons (show isStar (.Constant (.bytes []) k q1) = false from rfl), backTo_cons, starEach_cons hst, backTo_cons]; rfl
  refine name_global ok R hx hg ?_ hd
  have hpo : ∃ o, G.h₀.get? a = some o ∧ o.cls = .type "re.Pattern" := by
    obtain ⟨o, fs, c, oc, items, n, h1, h2, h3, _⟩ := hp
    exact ⟨o, h1, h2⟩
  obtain ⟨o, ho, hcls⟩ := hpo
  refine ⟨"re.Pattern", "re.Pattern.sub", plainAttrs_pat, slot_sub, type_sub, ⟨o, hold R _ _ ho, hcls⟩, fun b e => ?_, ?_⟩
  · cases e; exact ⟨o, hold R _ _ ho, hdict o ho⟩
  refine Calls.callWith_builtin (by rw [starEach_cons (show isStar (.Constant (.bytes []) k q1) = false from rfl), backTo_cons, starEach_cons hst, backTo_cons]; rfl) ?_
  rw [starEach_cons (show isStar (.Constant (.bytes []) k q1) = false from rfl), backTo_cons, starEach_cons hst, backTo_cons]
  refine Calls.evalArgs_plain (Calls.spliced_cons ((SE.cbytes (G := G) (n := n) (sc := sc) (σ := σ) (H := H) (Q := fun d H1 => d = .bytes #[] ∧ H1 = H) ⟨rfl, rfl⟩).run g ok R fun v1 s1 fz1 d1 H1 g1 R1 w1 q1 => Calls.spliced_cons (h.run g ok (q1.2 ▸ R1) fun v2 s2 fz2 d2 H2 g2 R2 w2 q2 => Calls.spliced_nil ?_)))
  obtain ⟨rfl, rfl⟩ := q1
  obtain ⟨b, c, rfl, hlf, q⟩ := q2
  simp only [V] at w1 w2
  obtain ⟨t1, rfl⟩ := w1
  obtain ⟨t2, rfl⟩ := w2
  refine sub_call (hp.mono (hold R2)) hlf fun h' tk t' hk => ?_
  exact ⟨fz2, _, H2, g1.trans g2, R2.keeps hk, V.anyBytes _ _ _, q⟩
theorem SE.encode {o : Expr} {name : Str} {apos pos : Pos} {Q : AV → HM → Prop} (hn : (name == ("encode" : Str)) = true) (h : SE G n sc o σ H fun d H1 => Ex1 fun x => A5 (d = .str x) (x.cps.findIdx? Str.isSurrogate = none) (1 ≤ x.length) ((encB x).size ≤ sizeLine) (Q (.bytes (encB x)) H1))
    (hbase : ∀ env : Env, attributeBase o name env (eval o env) = eval o env := by intro _; rfl) (hline : (apos.endLine == pos.line) = true := by rfl) : SE G n sc (.Call (.Attribute o name apos) [] [] pos) σ H Q := by
  have := eq_of_beq hn; subst this
  intro A kp fz env s g ok R
  refine SE.meth_run (K := fun d H1 => Ex1 fun x => A5 (d = .str x) (x.cps.findIdx? Str.isSurrogate = none) (1 ≤ x.length) ((encB x).size ≤ sizeLine) (Q (.bytes (encB x)) H1)) PySem.F.plainAttrs_str PySem.F.slot_str_encode PySem.F.type_str_encode (h.mono ?_) g ok R (fun v s1 fz1 d H1 g1 R1 v1 q => ?_) hbase hline
  · rintro d H1 ⟨x, rfl, q1, q2, q3, q4⟩; exact ⟨rfl, x, rfl, q1, q2, q3, q4⟩
  obtain ⟨x, rfl, h1, h2, h3, q⟩ := q
  simp only [V] at v1
  obtain ⟨t, rfl⟩ := v1
  refine wpAny_call_entry PySem.F.slot_str_encode (typeIs_str _ x t) PySem.F.entry_str_encode (encode_ok h1 h2 h3 fun t' tk => ⟨_, rfl, fz1, _, H1, g1, R1.tok, V.anyBytes _ _ _, q⟩) (PySem.F.args_str_encode_1 _)
/-- `b'('` or `b')'` counted in one such -/
noncomputable def cntB (b c : Array UInt8) : Option Int := if b = #[40] ∧ c = #[40] then some 1 else if b = #[40] ∧ c = #[41] then some 0 else if b = #[41] ∧ c = #[40] then some 0 else if b = #[41] ∧ c = #[41] then some 1 else none
theorem SVL.countB {b c : Array UInt8} {i : Int} {Q : AV → HM → Prop} (hc : cntB b c = some i) (q : Q (.int i) H) : SVL G n (fun vs => PySem.call (.builtin "bytes.count") vs) [.bytes b, .bytes c] H Q := by
  intro A kp fz env σ s vs g ok R hv
  simp only [VL] at hv
  obtain ⟨v1, r1, rfl, w1, v2, r2, rfl, w2, rfl⟩ := hv
  simp only [V] at w1 w2
  obtain ⟨t1, rfl⟩ := w1
  obtain ⟨t2, rfl⟩ := w2
  have hT : s.TypeIs (.bytes b t1) "bytes" := q9 _ _
  have fin : ∀ j : Int, j = i → wpAny (model G.prog G.w) A.in1 (retInt j) (fun fin s' => ∃ v, fin = .done (.ret v) ∧ PV G kp fz env σ Q v s') NoE s := by
    rintro j rfl
    refine wpAny_bind (wpAny_mkInt (wpAny_pure ⟨_, rfl, fz, _, H, Grow.refl _ _, R.tok, V.anyInt _ _ _, q⟩))
  refine wpAny_call_entry slot_count hT entry_count ?_ (args_count _ _)
  unfold cntB at hc
  split at hc
  · rename_i h; obtain ⟨rfl, rfl⟩ := h; cases hc; rw [count_11]; exact fin _ rfl
  split at hc
  · rename_i h; obtain ⟨rfl, rfl⟩ := h; cases hc; rw [count_12]; exact fin _ rfl
  split at hc
  · rename_i h; obtain ⟨rfl, rfl⟩ := h; cases hc; rw [count_21]; exact fin _ rfl
  split at hc
  · rename_i h; obtain ⟨rfl, rfl⟩ := h; cases hc; rw [count_22]; exact fin _ rfl
  · cases hc
theorem SE.countB {o e : Expr} {name : Str} {apos pos : Pos} {Q : AV → HM → Prop} (hn : (name == ("count" : Str)) = true) (he : isStar e = false)
    (h : SE G n sc o σ H fun d H1 => Ex1 fun b => A2 (d = .bytes b) (SE G n sc e σ H1 fun d2 H2 => Ex2 fun c i => A3 (d2 = .bytes c) (cntB b c = some i) (Q (.int i) H2)))
    (hbase : ∀ env : Env, attributeBase o name env (eval o env) = eval o env := by intro _; rfl) (hline : (apos.endLine == pos.line) = true := by rfl) : SE G n sc (.Call (.Attribute o name apos) [e] [] pos) σ H Q := by
  have := eq_of_beq hn; subst this
  refine SE.meth PySem.W.FB.plainAttrs_bytes slot_count type_count (h.mono ?_) hbase (by simp [he]) (by simp) hline
  rintro d H1 ⟨b, rfl, h1⟩
  refine ⟨rfl, he, h1.mono ?_⟩
  rintro d2 H2 ⟨c, i, rfl, h2, q⟩
  exact SVL.countB h2 q
end


/-! lists of texts -/
noncomputable def strsOf (xs : List Str) : List AV := xs.map .str
theorem VL.strs {fz : FM} : ∀ {xs : List Str} {vs : List Value}, VL fz (strsOf xs) vs → ∃ l : List (Str × Tok), vs = l.map (fun p => Value.str p.1 p.2) ∧ l.map (·.1) = xs
  | [], _, h => by simp only [strsOf, List.map_nil, VL] at h; subst h; exact ⟨[], rfl, rfl⟩
  | _ :: _, _, h => by
    simp only [strsOf, List.map_cons, VL, V] at h
    obtain ⟨v, r, rfl, ⟨t, rfl⟩, h⟩ := h
    obtain ⟨xs, rfl, rfl⟩ := VL.strs h
    exact ⟨(_, t) :: xs, rfl, rfl⟩
section
variable {G : GC} {n : Nat} {sc : Scope} {σ : SM} {H : HM}
theorem op_indexS {r : Addr} {ns : List Str} {i : Str} {j : Nat} {Q : AV → HM → Prop} (hr : H r = some (.list (strsOf ns))) (hz : lineOk ns.length) (hj : ns[j]? = some i) (hno : ∀ m, m < j → ns[m]? ≠ some i) (q : Q (.int j) H) :
    SVL G n (fun vs => call (.builtin "list.index") vs) [.ref r, .str i] H Q := by
  intro A kp fz env σ s vs g ok R hv
  obtain ⟨x, y, rfl, hx, hy⟩ := hv.two
  simp only [V] at hx hy; subst hx
  obtain ⟨t, rfl⟩ := hy
  obtain ⟨ws, k, ho, hws⟩ := R.h.listAt hr
  obtain ⟨xs, rfl, rfl⟩ := hws.strs
  have hz' := hz; unfold lineOk at hz'
  have hjl : j < xs.length := by
    have := (List.getElem?_eq_some_iff.mp hj).1
    simpa using this
  have hat : ∀ m (hm : m < (List.toArray (xs.map fun p => Value.str p.1 p.2)).size), (List.toArray (xs.map fun p => Value.str p.1 p.2))[m] = .str (xs[m]'(by simpa using hm)).1 (xs[m]'(by simpa using hm)).2 := fun m hm => by simp
  have gg := MeetsSeq.list_index r (List.toArray (xs.map fun p => Value.str p.1 p.2)) k (.str i t) (fun y => match y with | .str j _ => j.cps.toList == i.cps.toList | _ => false)
    (fun y hy => by
      obtain ⟨p, _, rfl⟩ : ∃ p ∈ xs, Value.str p.1 p.2 = y := by simpa using hy
      exact SeqRoads2.EqGives.str _ _ _ _) j (by simpa using hjl) (by
        have : xs.length ≤ 16777216 := by simpa using hz'
        have e : (2 : Int) ^ 63 = 9223372036854775808 := by decide
        rw [e]; lia) (by
        rw [hat]
        have : xs[j].1 = i := by
          have h2 := hj
          rw [List.getElem?_map, List.getElem?_eq_getElem hjl] at h2
          simpa using h2
        simp [this]) (fun m hm hlt => by
        rw [hat]
        have hm' : m < xs.length := by simpa using hm
        have h2 := hno m hlt
        rw [List.getElem?_map, List.getElem?_eq_getElem hm'] at h2
        have h3 : xs[m].1 ≠ i := by simpa using h2
        have h4 : xs[m].1.cps.toList ≠ i.cps.toList := fun e => h3 (by
          cases hx : xs[m].1; cases i
          rw [hx] at e
          congr 1
          exact Array.toList_inj.mp e)
        simpa using h4)
  refine call_meets PySem.F.slot_list_index ⟨_, ho, rfl⟩ PySem.F.entry_list_index (PySem.F.args_list_index_2 _ _) gg ⟨ho, ?_⟩
  exact PV.now (R.tok (tk := s.toks + 1)) (V.anyInt _ _ _) q
theorem op_inS {d : AV} {ns : List Str} {i : Str} {Q : AV → HM → Prop} (hp : PDOf H d (.list (ns.map .str))) (hl : PyData.canLayAll0 (ns.map .str) = true) (hi : PyData.canLay0 (.str i) = true) (q : Q (.bool ((ns.map PyData.str).any fun y => PyData.eqv y (.str i))) H) :
    SV2 G n (compareOp .In) (.str i) d H Q := by
  intro A kp fz env σ s va vb g ok R ha hb
  obtain ⟨as, ra⟩ := hp.reads R.h hb
  obtain ⟨bs, rb⟩ := PDOf.reads (a := .str i) R.h (.inl ⟨rfl, rfl⟩) ha
  refine SeqAt.in_list_reads ra rb hl hi ?_ (PV.now R (V.anyBool _ _) q)
  have := g.units
  have := Nat.min_le_right (PyData.depthAll (ns.map PyData.str)) (PyData.depth (pd (.str i)))
  have e : PyData.depth (pd (.str i)) = 0 := rfl
  show A.units + 1 + _ < 9900
  lia
/-- the texts one behind the other -/
noncomputable def catS : List Str → Str
  | [] => ⟨#[]⟩
  | x :: xs => x ++ catS xs
theorem glued_cat (xs : List Str) : Builtin.Str.glued ⟨#[]⟩ xs = catS xs := by
  have key : ∀ (l : List Str) (a : Array Nat), l.foldl (fun acc p => acc ++ (⟨#[]⟩ : Str).cps ++ p.cps) a = a ++ (catS l).cps := by
    intro l
    induction l with
    | nil => intro a; simp [catS]
    | cons x l ih =>
      intro a
      rw [List.foldl_cons, ih]
      show _ = a ++ (x.cps ++ (catS l).cps)
      simp
  unfold Builtin.Str.glued
  cases xs with
  | nil => rfl
  | cons x l =>
    simp only [List.drop_succ_cons, List.drop_zero, List.headD_cons]
    rw [key]
    rfl
theorem SE.joinS {e : Expr} {name : Str} {k : Nat} {p apos pos : Pos} {Q : AV → HM → Prop} (hn : (name == ("join" : Str)) = true) (he : isStar e = false)
    (h : SE G n sc e σ H fun d H1 => Ex1 fun xs => A5 (LstOf H1 d (strsOf xs)) (xs.length ≠ 1) (Builtin.Str.tooLong (xs.toArray.foldl (· + ·.length + 0) 0) = false) (lineOk (catS xs).length) (Q (.str (catS xs)) H1))
    (hbase : ∀ env : Env, attributeBase (.Constant (.str ⟨#[]⟩) k p) name env (eval (.Constant (.str ⟨#[]⟩) k p) env) = eval (.Constant (.str ⟨#[]⟩) k p) env := by intro _; rfl) (hline : (apos.endLine == pos.line) = true := by rfl) :
    SE G n sc (.Call (.Attribute (.Constant (.str ⟨#[]⟩) k p) name apos) [e] [] pos) σ H Q := by
  have := eq_of_beq hn; subst this
  refine SE.meth PySem.F.plainAttrs_str PySem.F.slot_str_join PySem.F.type_str_join (SE.cstr ⟨rfl, he, h.mono ?_⟩) hbase (by simp [he]) (by simp) hline
  rintro d H1 ⟨xs, hd, h1, hz, hz2, q⟩
  intro A kp fz env σ s vs g ok R hv
  obtain ⟨x, y, rfl, hx, hy⟩ := hv.two
  simp only [V] at hx
  obtain ⟨t, rfl⟩ := hx
  obtain ⟨a, ws, rfl, hl, hws, _⟩ := hd.at R.h hy
  obtain ⟨l, rfl, rfl⟩ := hws.strs
  refine call_meets PySem.F.slot_str_join (typeIs_str _ _ t) PySem.F.entry_str_join (PySem.F.args_str_join_2 _ _) (meets_str_join_list ⟨#[]⟩ t a l (by exact hz)) ⟨hl, ?_⟩
  have hj : joinMade ⟨#[]⟩ l = .str (Builtin.Str.glued ⟨#[]⟩ (l.map (·.1))) := by
    match l, h1 with
    | [], _ => rfl
    | [_], h1 => exact absurd rfl h1
    | _ :: _ :: _, _ => rfl
  rw [hj, glued_cat]
  exact ⟨hz2.le, PV.now (R.tok (tk := s.toks + 1)) (V.anyStr _ _ _) q⟩
end

theorem VL.intsAre {fz : FM} : ∀ {ns : List Int} {vs : List Value}, VL fz (intsOf ns) vs → IntsAre vs ns
  | [], _, h => by simp only [intsOf, List.map_nil, VL] at h; subst h; exact .nil
  | _ :: _, _, h => by
    simp only [intsOf, List.map_cons, VL, V] at h
    obtain ⟨v, r, rfl, ⟨t, rfl⟩, h⟩ := h
    exact .cons _ _ (VL.intsAre h)
theorem VL.ofIntsAre {fz : FM} : ∀ {ns : List Int} {vs : List Value}, IntsAre vs ns → VL fz (intsOf ns) vs
  | _, _, .nil => by simp only [intsOf, List.map_nil, VL]
  | _, _, .cons n t h => by
    simp only [intsOf, List.map_cons, VL, V]
    exact ⟨_, _, rfl, ⟨t, rfl⟩, VL.ofIntsAre h⟩
section
variable {G : GC} {n : Nat} {sc : Scope} {σ : SM} {H : HM}
theorem op_cutStep {d : AV} {ns : List Int} {lo hi st : Option Int} {Q : AV → HM → Prop} (hd : LstOf H d (intsOf ns)) (hz : lineOk ns.length) (h0 : st ≠ some 0) (q : Q (.lst (intsOf (pickNums ns lo hi st))) H) : SVS G n d lo hi st H Q := by
  intro A kp fz env σ s vo sl pl pu ps g ok R hv hs e1 e2 e3
  obtain ⟨a, ws, rfl, hl, hws, _⟩ := hd.at R.h hv
  have part : ∀ {p : Option (Int × Tok)} {i : Option Int}, p.map (·.1) = i → IsPart (partValue p) i := fun {p i} e => by
    cases p with
    | none => subst e; exact .none
    | some q => subst e; exact .int _ _
  have hI := hws.intsAre
  refine wpAny_getItem_list_slice hl hs (part e1) (part e2) (part e3) h0 ?_ (by rw [List.size_toArray, hI.length]; exact hz.le)
  have hp := hI.pick lo hi st
  have := new_frozen_list (tk := s.toks) R (VL.ofIntsAre hp) q
  simpa using this
theorem SE.cutStep {value lower step : Expr} {p pos : Pos} {Q : AV → HM → Prop} (h : SE G n sc value σ H fun d H1 => SE G n sc lower σ H1 fun e H2 => Ex1 fun i => A2 (e = .int i) (SE G n sc step σ H2 fun e2 H3 => Ex1 fun ns => Ex1 fun j => A5 (LstOf H3 d (intsOf ns)) (e2 = .int j) (j ≠ 0) (lineOk ns.length) (Q (.lst (intsOf (pickNums ns (some i) none (some j)))) H3))) :
    SE G n sc (.Subscript value (.Slice (some lower) none (some step) p) pos) σ H Q := by
  refine SE.cut (T := "list") list_getitem_lookup (h.mono fun d H1 h1 => SEo.some (h1.mono ?_))
  rintro e H2 ⟨i, rfl, h2⟩
  refine ⟨i, rfl, SEo.none (SEo.some (h2.mono ?_))⟩
  rintro e2 H3 ⟨ns, j, hd, rfl, hj, hz, q⟩
  refine ⟨j, rfl, ?_, op_cutStep hd hz (by simpa using hj) q⟩
  rcases hd with rfl | ⟨r, rfl, hr⟩
  · rfl
  · simp [tyOf, hr]
end

section
variable {G : GC} {n : Nat} {sc : Scope} {σ : SM} {H : HM} {kp fz : FM} {env : Env} {s : Shared}
theorem Rel.freezeN {x : Str} {r : Addr} {ds : List AV} (R : Rel G kp fz env σ H s) (hx : σ x = some (.ref r)) (hr : H r = some (.list ds)) :
    ∃ ob, Grow kp fz (up fz r ob) ∧ Rel G kp (up fz r ob) env (sup σ x (.lst ds)) (del H r) s := by
  obtain ⟨ob, g, R2, vs, k, rfl, v2⟩ := R.freeze hr
  have hv : V (up fz r { cls := .type "list", data := .seq (List.toArray vs) k }) (.lst ds) (.ref r) := by
    simp only [V]; exact ⟨r, vs, _, k, rfl, up_self .., rfl, rfl, rfl, v2.mono g.1⟩
  refine ⟨_, g, R2.h, ⟨?_, fun y v e hk => ?_, R2.e.own, R2.e.apart, R2.e.nL⟩⟩
  · obtain ⟨m, h1, h2⟩ := R2.e.loc
    refine ⟨m, h1, fun y v e hk => ?_⟩
    unfold sup at e
    split at e
    · rename_i hy; subst hy; cases e
      obtain ⟨val, q1, q2⟩ := h2 _ _ hx hk
      simp only [V] at q2; subst q2
      exact ⟨_, q1, hv⟩
    · exact h2 y v e hk
  · unfold sup at e
    split at e
    · rename_i hy; subst hy; cases e
      obtain ⟨c, val, q1, q2, q3⟩ := R2.e.cel _ _ hx hk
      simp only [V] at q3; subst q3
      exact ⟨c, _, q1, q2, hv⟩
    · exact R2.e.cel y v e hk
/-- a list that a name tells is from now on left as it is -/
theorem SS.freeze {x : Str} {r : Addr} {ds : List AV} {sts : List Stmt} {Q : AF → SM → HM → Prop} (hx : σ x = some (.ref r)) (hr : H r = some (.list ds))
    (h : SS G n sc sts (sup σ x (.lst ds)) (del H r) Q) : SS G n sc sts σ H Q := by
  intro A kp fz env s g ok R
  obtain ⟨ob, g2, R2⟩ := R.freezeN hx hr
  exact wpAny_mono (h A kp _ env s g ok R2) (fun _ _ ⟨fz', af, σ', H', g', R', hv, q⟩ => ⟨fz', af, σ', H', g2.trans g', R', hv, q⟩) fun _ _ x => x

/-- a kind of abstract values that == tells apart -/
structure EqK {α : Type} [DecidableEq α] (f : α → AV) (k : Nat) : Prop where
  plain : ∀ x, plain (f x) = true
  eqv : ∀ x y, (pd (f x)).eqv (pd (f y)) = decide (x = y)
  ok : ∀ x, okD k (pd (f x))
theorem EqK.int : EqK AV.int 0 := ⟨fun _ => rfl, fun x y => by show (x == y) = _; rw [Bool.eq_iff_iff]; simp, okD.int⟩
theorem EqK.lst {α : Type} [DecidableEq α] {f : α → AV} {k : Nat} (h : EqK f k) : EqK (fun l : List α => AV.lst (l.map f)) (k + 1) :=
  ⟨fun l => plainL_map f h.plain l, fun l m => by
    show PyData.eqvAll (pdL (l.map f)) (pdL (m.map f)) = _
    rw [pdL_map, pdL_map]
    exact eqvAll_map (fun x => pd (f x)) h.eqv l m, fun l => by
    show okD (k + 1) (.list (pdL (l.map f)))
    rw [pdL_map]
    refine okD.list fun d hd => ?_
    obtain ⟨x, _, rfl⟩ := List.mem_map.mp hd
    exact h.ok x⟩
theorem EqK.tup2 {α β : Type} [DecidableEq α] [DecidableEq β] {f : α → AV} {g : β → AV} {k : Nat} (h : EqK f k) (h2 : EqK g k) : EqK (fun p : α × β => AV.tup [f p.1, g p.2]) (k + 1) :=
  ⟨fun p => by simp [Mine.plain, plainL, h.plain, h2.plain], fun p q => by
    obtain ⟨a, b⟩ := p; obtain ⟨c, d⟩ := q
    show PyData.eqvAll [pd (f a), pd (g b)] [pd (f c), pd (g d)] = _
    simp only [PyData.eqvAll, h.eqv, h2.eqv, Bool.and_true, Prod.mk.injEq, Bool.decide_and], fun p => by
    refine okD.tuple (ds := [pd (f p.1), pd (g p.2)]) fun d hd => ?_
    simp only [List.mem_cons, List.not_mem_nil, or_false] at hd
    rcases hd with rfl | rfl
    · exact h.ok _
    · exact h2.ok _⟩
theorem EqK.tup3 {α β γ : Type} [DecidableEq α] [DecidableEq β] [DecidableEq γ] {f : α → AV} {g : β → AV} {e : γ → AV} {k : Nat} (h : EqK f k) (h2 : EqK g k) (h3 : EqK e k) : EqK (fun p : α × β × γ => AV.tup [f p.1, g p.2.1, e p.2.2]) (k + 1) :=
  ⟨fun p => by simp [Mine.plain, plainL, h.plain, h2.plain, h3.plain], fun p q => by
    obtain ⟨a, b, x⟩ := p; obtain ⟨c, d, y⟩ := q
    show PyData.eqvAll [pd (f a), pd (g b), pd (e x)] [pd (f c), pd (g d), pd (e y)] = _
    simp only [PyData.eqvAll, h.eqv, h2.eqv, h3.eqv, Bool.and_true, Prod.mk.injEq, Bool.decide_and], fun p => by
    refine okD.tuple (ds := [pd (f p.1), pd (g p.2.1), pd (e p.2.2)]) fun d hd => ?_
    simp only [List.mem_cons, List.not_mem_nil, or_false] at hd
    rcases hd with rfl | rfl | rfl
    · exact h.ok _
    · exact h2.ok _
    · exact h3.ok _⟩
theorem EqK.bool : EqK AV.bool 0 := ⟨fun _ => rfl, fun x y => by cases x <;> cases y <;> rfl, okD.bool⟩
theorem EqK.neS {α : Type} [DecidableEq α] {f : α → AV} {k : Nat} (h : EqK f k) (hk : k ≤ 64) {a b : AV} {x y : α} (ha : a = f x) (hb : b = f y) (e : x = y) {Q : AV → HM → Prop} (q : Q (.bool false) H) : SV2 G n (compareOp .NotEq) a b H Q := by
  subst ha hb e
  refine SV2.neD (.inl ⟨h.plain x, rfl⟩) (.inl ⟨h.plain x, rfl⟩) ((h.ok x).shaped hk) ((h.ok x).shaped hk) ?_
  rw [h.eqv]
  simpa using q
theorem EqK.eqS {α : Type} [DecidableEq α] {f : α → AV} {k : Nat} (h : EqK f k) (hk : k ≤ 64) {a b : AV} {x y : α} (ha : a = f x) (hb : b = f y) (e : x = y) {Q : AV → HM → Prop} (q : Q (.bool true) H) : SV2 G n (compareOp .Eq) a b H Q := by
  subst ha hb e
  refine SV2.eqD (.inl ⟨h.plain x, rfl⟩) (.inl ⟨h.plain x, rfl⟩) ((h.ok x).shaped hk) ((h.ok x).shaped hk) ?_
  rw [h.eqv]
  simpa using q
end

theorem lk0 {n : Nat} (h : n < 900) : lineOk n := Nat.le_trans (Nat.le_of_lt h) (by decide)
theorem lk1 {i n : Nat} (h : i < n) (h2 : n < 900) : lineOk i := lk0 (Nat.lt_trans h h2)
theorem lk2 {i n : Nat} (h : i ≤ n) (h2 : n < 900) : lineOk i := lk0 (Nat.lt_of_le_of_lt h h2)
theorem lk3 {i j n : Nat} (h : i < j) (h1 : j < n) (h2 : n < 900) : lineOk i := lk1 (Nat.lt_trans h h1) h2
theorem lk4 {i j n : Nat} (h : i < j) (h1 : j ≤ n) (h2 : n < 900) : lineOk i := lk1 (Nat.lt_of_lt_of_le h h1) h2
/-! the same rules with the end of a turn hidden: what follows is one name in the turn's proof -/
section
variable {G : GC} {n : Nat} {sc : Scope} {σ : SM} {H : HM}
theorem ForW.invK {α : Type} {tgt : Expr} {body : List Stmt} {Q : AF → SM → HM → Prop} (names : List Str) (vals : α → List AV) (I : List AV → α → HM → Prop)
    (turn : ∀ d ds a H, I (d :: ds) a H → ∀ K : AF → SM → HM → Prop, (∀ σ2 H2, (∃ a', Sub (argsOf names (vals a')) σ2 ∧ I ds a' H2) → K .next σ2 H2) →
      SA G n sc tgt d (argsOf names (vals a)) H fun σ1 H1 => SS G n sc body σ1 H1 K)
    (fin : ∀ a H, I [] a H → Q .next (argsOf names (vals a)) H) (ds : List AV) (a : α) (H : HM) (h : I ds a H) : ForW G n sc tgt body Q ds (argsOf names (vals a)) H :=
  ForW.inv names vals I (fun d ds a H h => turn d ds a H h _ fun _ _ x => x) fin ds a H h
theorem SS.midK {α : Type} {st : Stmt} {rest : List Stmt} {Q : AF → SM → HM → Prop} (names : List Str) (vals : α → List AV) (I : α → HM → Prop)
    (h1 : ∀ K : AF → SM → HM → Prop, (∀ σ' H', (∃ a, Sub (argsOf names (vals a)) σ' ∧ I a H') → K .next σ' H') → S1 G n sc st σ H K) (h2 : ∀ a H', I a H' → SS G n sc rest (argsOf names (vals a)) H' Q) : SS G n sc (st :: rest) σ H Q :=
  SS.mid names vals I (h1 _ fun _ _ x => ⟨rfl, x⟩) h2
theorem CmpW.indK {elt tgt : Expr} {ifs : List Expr} {σc : SM} {Q : MO → HM → Prop} (I : List AV → List AV → HM → Prop)
    (turn : ∀ d ds acc H, I (d :: ds) acc H → ∀ K : AV → HM → Prop, (∀ v H2, lineOk acc.length ∧ I ds (acc ++ [v]) H2 → K v H2) →
      ∃ σ1, asg σc tgt d = some σ1 ∧ STs G n sc ifs σ1 H fun b H1 => (b = true → SE G n sc elt σ1 H1 K) ∧ (b = false → I ds acc H1))
    (fin : ∀ acc H, I [] acc H → Q (.list acc) H) (ds acc : List AV) (H : HM) (h : I ds acc H) : CmpW G n sc tgt ifs (emitL elt) σc Q ds (.list acc) H :=
  CmpW.ind I (fun d ds acc H h => turn d ds acc H h _ fun _ _ x => x) fin ds acc H h
theorem S1.whileK {α : Type} {test : Expr} {body : List Stmt} {pos : Pos} {Q : AF → SM → HM → Prop} (names : List Str) (vals : α → List AV) (I : Nat → α → HM → Prop)
    (turn : ∀ k a H, I k a H → ∀ K : AF → SM → HM → Prop, (∀ σ2 H2, (∃ m a', m < k ∧ Sub (argsOf names (vals a')) σ2 ∧ I m a' H2) → K .next σ2 H2) →
      ST G n sc test (argsOf names (vals a)) H fun b H1 => (b = true → SS G n sc body (argsOf names (vals a)) H1 K) ∧ (b = false → Q .next (argsOf names (vals a)) H1)) (k : Nat) (a : α) (hs : Sub (argsOf names (vals a)) σ) (h0 : I k a H) : S1 G n sc (.While test body [] pos) σ H Q :=
  S1.whileA names vals I (fun k a H h => turn k a H h _ fun _ _ x => x) k a hs h0
theorem S1.whileKB {α : Type} {test : Expr} {body : List Stmt} {pos : Pos} {Q : AF → SM → HM → Prop} (names : List Str) (vals : α → List AV) (I : Nat → α → HM → Prop)
    (turn : ∀ k a H, I k a H → ∀ K : AF → SM → HM → Prop, (∀ σ2 H2, (∃ m a', m < k ∧ Sub (argsOf names (vals a')) σ2 ∧ I m a' H2) → K .next σ2 H2) → (∀ σ2 H2, Q .next σ2 H2 → K .brk σ2 H2) →
      ST G n sc test (argsOf names (vals a)) H fun b H1 => (b = true → SS G n sc body (argsOf names (vals a)) H1 K) ∧ (b = false → Q .next (argsOf names (vals a)) H1)) (k : Nat) (a : α) (hs : Sub (argsOf names (vals a)) σ) (h0 : I k a H) : S1 G n sc (.While test body [] pos) σ H Q :=
  S1.whileA names vals I (fun k a H h => turn k a H h _ (fun _ _ x => x) fun _ _ x => x) k a hs h0
theorem ForW.invKR {α : Type} {tgt : Expr} {body : List Stmt} {Q : AF → SM → HM → Prop} (names : List Str) (vals : α → List AV) (I : List AV → α → HM → Prop)
    (turn : ∀ d ds a H, I (d :: ds) a H → ∀ K : AF → SM → HM → Prop, (∀ σ2 H2, (∃ a', Sub (argsOf names (vals a')) σ2 ∧ I ds a' H2) → K .next σ2 H2) → (∀ v σ2 H2, Q (.ret v) σ2 H2 → K (.ret v) σ2 H2) →
      SA G n sc tgt d (argsOf names (vals a)) H fun σ1 H1 => SS G n sc body σ1 H1 K)
    (fin : ∀ a H, I [] a H → Q .next (argsOf names (vals a)) H) (ds : List AV) (a : α) (H : HM) (h : I ds a H) : ForW G n sc tgt body Q ds (argsOf names (vals a)) H :=
  ForW.inv names vals I (fun d ds a H h => turn d ds a H h _ (fun _ _ x => x) fun _ _ _ x => x) fin ds a H h
end

noncomputable abbrev P0 : Program := PySem.Challenge.pw_xg0048_01
noncomputable def defAt (i : Nat) : Arguments × List Stmt × Scope := match P0.main.body[i]? with
  | some (.FunctionDef _ a b _ _ _ sc _ _ _) => (a, b, sc)
  | _ => (⟨[], [], none, [], [], none, []⟩, [], default)
noncomputable abbrev bodyAt (i : Nat) : List Stmt := (defAt i).2.1
noncomputable abbrev scAt (i : Nat) : Scope := (defAt i).2.2


local macro_rules | `(tactic| walk_at "e") => `(tactic| first
  | ((with_reducible refine SE.nm (v := ?v) ?h ?k ?q); (case h => exact @rfl Bool true); (case k => exact rfl))
  | with_reducible first | refine SE.int0 ?_ | refine SE.int1 ?_ | refine SE.int2 ?_ | refine SE.intN ?_ | refine SE.bin ?_ | refine SV2.lt ?_ | refine SV2.gt ?_ | refine SV2.ge ?_ | refine SV2.le ?_ | refine SV2.eqi ?_ | refine SV2.nei ?_ | refine SV2.add ?_ | refine SV2.sub ?_ | refine SV2.iadd ?_ | refine SE.cstr ?_ | refine SE.cnone ?_ | refine SE.cbool ?_ | refine SE.cbytes ?_ | refine SE.ifx ?_ | refine SEs.nil ?_
  | ((with_reducible first | refine SE.cm ?_ ?_ | refine SE.tup ?_ ?_ | refine SEs.cons ?_ ?_); (· exact rfl))
  | ((with_reducible refine SE.len ?_ ?_ ?_ ?_); (iterate 3 (· exact rfl)))
  | ((with_reducible refine SE.sum ?_ ?_ ?_ ?_); (iterate 3 (· exact rfl)))
  | ((with_reducible refine SE.maxb ?_ ?_ ?_ ?_); (iterate 3 (· exact rfl))))
local macro_rules | `(tactic| walk_at "s0") => `(tactic| first
  | with_reducible first | refine SS.nil ?_ | refine S1.if ?_ | refine S1.ret ?_ | refine S1.ret0 ?_ | refine S1.brk ?_ | refine ST.and ?_ | refine ST.and_nil ?_ | refine ST.or ?_ | refine ST.or_nil ?_
  | ((with_reducible refine S1.assign ?_ ?_ ?_ ?_); (iterate 3 (· exact rfl)))
  | ((with_reducible refine S1.aug (a := ?a) ?h ?k ?q); (case h => exact rfl); (case k => exact rfl))
  | ((with_reducible refine ST.name (b := ?b) ?h ?k ?q); (case h => exact rfl); (case k => exact rfl))
  | ((with_reducible first | refine S1.expr ?_ ?_ | refine SA.name ?_ ?_ | refine ST.cm ?_ ?_); (· exact rfl)))
local macro_rules | `(tactic| walk_at "s") => `(tactic| first | with_reducible refine SS.cons ?_ | walk_at "s0")
local macro_rules | `(tactic| walk_at "v") => `(tactic| repeat (first | walk_at "s0" | walk_at "e"))
local macro_rules | `(tactic| walk_at "w") => `(tactic| repeat (first | walk_at "s" | walk_at "e"))
local macro_rules | `(tactic| walk_at "sub") => `(tactic| (repeat' (first | exact subNil | refine subCons rfl ?_)))
local macro_rules | `(tactic| walk_at "b") => `(tactic| conv in (bodyAt _) => reduce)
local macro_rules | `(tactic| walk_at "m") => `(tactic| first
  | ((with_reducible refine SE.append ?_ ?_ ?_ ?_ ?_); (· exact rfl); (· exact fun _ => rfl); (· exact rfl); (· exact rfl))
  | ((with_reducible refine SE.popAt ?_ ?_ ?_ ?_ ?_); (· exact rfl); (· exact fun _ => rfl); (· exact rfl); (· exact rfl))
  | ((with_reducible refine SE.popLast ?_ ?_ ?_ ?_); (· exact rfl); (· exact fun _ => rfl); (· exact rfl))
  | ((with_reducible refine SE.index ?_ ?_ ?_ ?_ ?_); (· exact rfl); (· exact fun _ => rfl); (· exact rfl); (· exact rfl))
  | ((with_reducible refine SE.insert ?_ ?_ ?_ ?_ ?_ ?_); (· exact rfl); (· exact fun _ => rfl); (· exact rfl); (· exact rfl); (· exact rfl))
  | ((with_reducible refine SE.reverse ?_ ?_ ?_ ?_); (· exact rfl); (· exact fun _ => rfl); (· exact rfl)))
local macro_rules | `(tactic| walk_at "lk") => `(tactic| first
  | exact lk0 (by assumption)
  | exact lk1 (by assumption) (by assumption)
  | (unfold lineOk; lia))

/-- the left place of x, as the text looks for it -/
noncomputable def bisL (ns : List Int) (x : Int) : Nat → Nat → Nat → Nat
  | 0, lo, _ => lo
  | k + 1, lo, hi => if lo < hi then (if (ns.getD ((lo + hi) / 2) 0) < x then bisL ns x k ((lo + hi) / 2 + 1) hi else bisL ns x k lo ((lo + hi) / 2)) else lo
theorem bisL_more (ns : List Int) (x : Int) : ∀ (k lo hi : Nat), hi - lo ≤ k → bisL ns x (k + 1) lo hi = bisL ns x k lo hi
  | 0, lo, hi, h => by
    unfold bisL; rw [if_neg (by lia)]
  | k + 1, lo, hi, h => by
    rw [bisL]
    conv => rhs; rw [bisL]
    split
    · split
      · exact bisL_more ns x k _ _ (by lia)
      · exact bisL_more ns x k _ _ (by lia)
    · rfl
theorem bisL_bound (ns : List Int) (x : Int) : ∀ (k lo hi m : Nat), lo ≤ m → hi ≤ m → bisL ns x k lo hi ≤ m
  | 0, _, _, _, h, _ => h
  | k + 1, lo, hi, m, h1, h2 => by
    unfold bisL
    split
    · split
      · exact bisL_bound ns x k _ _ _ (by lia) h2
      · exact bisL_bound ns x k _ _ _ h1 (by lia)
    · exact h1
noncomputable def bisLeft (ns : List Int) (x : Int) : Nat := bisL ns x ns.length 0 ns.length
theorem bisLeft_le (ns : List Int) (x : Int) : bisLeft ns x ≤ ns.length := bisL_bound _ _ _ _ _ _ (Nat.zero_le _) (Nat.le_refl _)

/-- the right place of x -/
noncomputable def bisR (ns : List Int) (x : Int) : Nat → Nat → Nat → Nat
  | 0, lo, _ => lo
  | k + 1, lo, hi => if lo < hi then (if x < (ns.getD ((lo + hi) / 2) 0) then bisR ns x k lo ((lo + hi) / 2) else bisR ns x k ((lo + hi) / 2 + 1) hi) else lo
theorem bisR_more (ns : List Int) (x : Int) : ∀ (k lo hi : Nat), hi - lo ≤ k → bisR ns x (k + 1) lo hi = bisR ns x k lo hi
  | 0, lo, hi, h => by
    unfold bisR; rw [if_neg (by lia)]
  | k + 1, lo, hi, h => by
    rw [bisR]
    conv => rhs; rw [bisR]
    split
    · split
      · exact bisR_more ns x k _ _ (by lia)
      · exact bisR_more ns x k _ _ (by lia)
    · rfl
theorem bisR_bound (ns : List Int) (x : Int) : ∀ (k lo hi m : Nat), lo ≤ m → hi ≤ m → bisR ns x k lo hi ≤ m
  | 0, _, _, _, h, _ => h
  | k + 1, lo, hi, m, h1, h2 => by
    unfold bisR
    split
    · split
      · exact bisR_bound ns x k _ _ _ h1 (by lia)
      · exact bisR_bound ns x k _ _ _ (by lia) h2
    · exact h1
noncomputable def bisRight (ns : List Int) (x : Int) : Nat := bisR ns x ns.length 0 ns.length
theorem bisRight_le (ns : List Int) (x : Int) : bisRight ns x ≤ ns.length := bisR_bound _ _ _ _ _ _ (Nat.zero_le _) (Nat.le_refl _)

theorem getD_ints (ns : List Int) (i : Nat) (h : i < ns.length) : (intsOf ns)[i]? = some (.int (ns.getD i 0)) := by
  simp [intsOf, h, List.getD_eq_getElem?_getD]
theorem length_ints (ns : List Int) : (intsOf ns).length = ns.length := List.length_map ..

noncomputable abbrev fBL : Str := "bisect_left"
noncomputable abbrev fBR : Str := "bisect_right"
theorem bisect_left_ok {G : GC} {n : Nat} {r : Addr} {ns : List Int} {x : Int} {H : HM} (F : Fn G fBL ["a", "x", "lo", "hi", "key"] [.none] 4 (scAt 8) (bodyAt 8)) (hr : H r = some (.list (intsOf ns))) (hz : lineOk ns.length)
    {Q : AV → HM → Prop} (q : Q (.int (bisLeft ns x)) H) : SC G (n + 1) fBL [.ref r, .int x, .int 0, .none] H Q := by
  refine SC.of_body F ?_
  walk_at "b"
  walk_at "w"
  refine ⟨_, rfl, (fun h => nomatch h), fun _ => ?_⟩
  walk_at "w"
  refine op_isNone (.inl ⟨rfl, rfl⟩) ?_
  refine ⟨_, rfl, fun _ => ?_, (fun h => nomatch h)⟩
  walk_at "w"
  refine op_len (.inr ⟨r, rfl, hr⟩) (by simpa [intsOf] using hz) ?_
  rw [length_ints]
  walk_at "w"
  refine op_isNone (.inl ⟨rfl, rfl⟩) ?_
  refine ⟨_, rfl, fun _ => ?_, (fun h => nomatch h)⟩
  walk_at "w"
  refine S1.whileK (α := Nat × Nat) ["a", "x", "lo", "hi"] (fun p => [.ref r, .int x, .int p.1, .int p.2])
    (fun k p H' => A5 (H' = H) (p.1 ≤ p.2) (p.2 ≤ ns.length) (k = p.2 - p.1) (bisL ns x ns.length p.1 p.2 = bisLeft ns x)) ?_ ns.length (0, ns.length) (by walk_at "sub") ⟨rfl, Nat.zero_le _, Nat.le_refl _, rfl, rfl⟩
  rintro k ⟨lo, hi⟩ _ ⟨rfl, h1, h2, h3, h4⟩ K hK
  dsimp only at h1 h2 h3 h4 ⊢
  unfold lineOk at hz
  walk_at "w"
  refine ⟨_, rfl, fun hlt => ?_, fun hge => ?_⟩
  · have hlt : lo < hi := by simpa using hlt
    have hstep : bisL ns x ns.length lo hi = if (ns.getD ((lo + hi) / 2) 0) < x then bisL ns x ns.length ((lo + hi) / 2 + 1) hi else bisL ns x ns.length lo ((lo + hi) / 2) := by
      rw [← bisL_more ns x ns.length lo hi (by lia), bisL, if_pos hlt]
    walk_at "w"
    have hdiv : ((lo : Int) + hi).fdiv 2 = (((lo + hi) / 2 : Nat) : Int) := by rw [Int.fdiv_eq_ediv_of_nonneg _ (by decide)]; lia
    refine SV2.div (by decide) (PyProof.noPylong_small (by decide)) ?_
    rw [hdiv]
    walk_at "w"
    refine SE.item ?_
    walk_at "w"
    refine ⟨_, _, _, .inr ⟨r, rfl, hr⟩, rfl, by walk_at "lk", getD_ints ns ((lo + hi) / 2) (by lia), ?_⟩
    walk_at "w"
    refine ⟨_, rfl, fun hx => ?_, fun hx => ?_⟩
    · have hx : ns.getD ((lo + hi) / 2) 0 < x := by simpa using hx
      rw [if_pos hx] at hstep
      walk_at "w"
      refine hK _ _ ⟨hi - ((lo + hi) / 2 + 1), ((lo + hi) / 2 + 1, hi), by lia, by walk_at "sub", rfl, ?_, h2, rfl, ?_⟩
      · show (lo + hi) / 2 + 1 ≤ hi; lia
      · show bisL ns x ns.length ((lo + hi) / 2 + 1) hi = _; rw [← hstep, h4]
    · have hx : ¬ ns.getD ((lo + hi) / 2) 0 < x := by simpa using hx
      rw [if_neg hx] at hstep
      walk_at "w"
      refine hK _ _ ⟨(lo + hi) / 2 - lo, (lo, (lo + hi) / 2), by lia, by walk_at "sub", rfl, ?_, ?_, rfl, ?_⟩
      · show lo ≤ (lo + hi) / 2; lia
      · show (lo + hi) / 2 ≤ _; lia
      · show bisL ns x ns.length lo ((lo + hi) / 2) = _; rw [← hstep, h4]
  · have hge : ¬ lo < hi := by simpa using hge
    have e : lo = bisLeft ns x := by
      rw [← h4, ← bisL_more ns x ns.length lo hi (by lia), bisL, if_neg hge]
    walk_at "w"
    rw [e]; exact q

theorem bisect_right_ok {G : GC} {n : Nat} {r : Addr} {ns : List Int} {x : Int} {H : HM} (F : Fn G fBR ["a", "x", "lo", "hi", "key"] [.none] 4 (scAt 6) (bodyAt 6)) (hr : H r = some (.list (intsOf ns))) (hz : lineOk ns.length)
    {Q : AV → HM → Prop} (q : Q (.int (bisRight ns x)) H) : SC G (n + 1) fBR [.ref r, .int x, .int 0, .none] H Q := by
  refine SC.of_body F ?_
  walk_at "b"
  walk_at "w"
  refine ⟨_, rfl, (fun h => nomatch h), fun _ => ?_⟩
  walk_at "w"
  refine op_isNone (.inl ⟨rfl, rfl⟩) ?_
  refine ⟨_, rfl, fun _ => ?_, (fun h => nomatch h)⟩
  walk_at "w"
  refine op_len (.inr ⟨r, rfl, hr⟩) (by simpa [intsOf] using hz) ?_
  rw [length_ints]
  walk_at "w"
  refine op_isNone (.inl ⟨rfl, rfl⟩) ?_
  refine ⟨_, rfl, fun _ => ?_, (fun h => nomatch h)⟩
  walk_at "w"
  refine S1.whileK (α := Nat × Nat) ["a", "x", "lo", "hi"] (fun p => [.ref r, .int x, .int p.1, .int p.2])
    (fun k p H' => A5 (H' = H) (p.1 ≤ p.2) (p.2 ≤ ns.length) (k = p.2 - p.1) (bisR ns x ns.length p.1 p.2 = bisRight ns x)) ?_ ns.length (0, ns.length) (by walk_at "sub") ⟨rfl, Nat.zero_le _, Nat.le_refl _, rfl, rfl⟩
  rintro k ⟨lo, hi⟩ _ ⟨rfl, h1, h2, h3, h4⟩ K hK
  dsimp only at h1 h2 h3 h4 ⊢
  unfold lineOk at hz
  walk_at "w"
  refine ⟨_, rfl, fun hlt => ?_, fun hge => ?_⟩
  · have hlt : lo < hi := by simpa using hlt
    have hstep : bisR ns x ns.length lo hi = if x < (ns.getD ((lo + hi) / 2) 0) then bisR ns x ns.length lo ((lo + hi) / 2) else bisR ns x ns.length ((lo + hi) / 2 + 1) hi := by
      rw [← bisR_more ns x ns.length lo hi (by lia), bisR, if_pos hlt]
    walk_at "w"
    have hdiv : ((lo : Int) + hi).fdiv 2 = (((lo + hi) / 2 : Nat) : Int) := by rw [Int.fdiv_eq_ediv_of_nonneg _ (by decide)]; lia
    refine SV2.div (by decide) (PyProof.noPylong_small (by decide)) ?_
    rw [hdiv]
    walk_at "w"
    refine SE.item ?_
    walk_at "w"
    refine ⟨_, _, _, .inr ⟨r, rfl, hr⟩, rfl, by walk_at "lk", getD_ints ns ((lo + hi) / 2) (by lia), ?_⟩
    walk_at "w"
    refine ⟨_, rfl, fun hx => ?_, fun hx => ?_⟩
    · have hx : x < ns.getD ((lo + hi) / 2) 0 := by simpa using hx
      rw [if_pos hx] at hstep
      walk_at "w"
      refine hK _ _ ⟨(lo + hi) / 2 - lo, (lo, (lo + hi) / 2), by lia, by walk_at "sub", rfl, ?_, ?_, rfl, ?_⟩
      · show lo ≤ (lo + hi) / 2; lia
      · show (lo + hi) / 2 ≤ _; lia
      · show bisR ns x ns.length lo ((lo + hi) / 2) = _; rw [← hstep, h4]
    · have hx : ¬ x < ns.getD ((lo + hi) / 2) 0 := by simpa using hx
      rw [if_neg hx] at hstep
      walk_at "w"
      refine hK _ _ ⟨hi - ((lo + hi) / 2 + 1), ((lo + hi) / 2 + 1, hi), by lia, by walk_at "sub", rfl, ?_, h2, rfl, ?_⟩
      · show (lo + hi) / 2 + 1 ≤ hi; lia
      · show bisR ns x ns.length ((lo + hi) / 2 + 1) hi = _; rw [← hstep, h4]
  · have hge : ¬ lo < hi := by simpa using hge
    have e : lo = bisRight ns x := by
      rw [← h4, ← bisR_more ns x ns.length lo hi (by lia), bisR, if_neg hge]
    walk_at "w"
    rw [e]; exact q

noncomputable def insL (ns : List Int) (x : Int) : List Int := ns.take (bisLeft ns x) ++ x :: ns.drop (bisLeft ns x)
noncomputable def insR (ns : List Int) (x : Int) : List Int := ns.take (bisRight ns x) ++ x :: ns.drop (bisRight ns x)
theorem ints_cut (ns : List Int) (k : Nat) (x : Int) : (intsOf ns).take k ++ .int x :: (intsOf ns).drop k = intsOf (ns.take k ++ x :: ns.drop k) := by
  simp [intsOf]
noncomputable abbrev fIL : Str := "insort_left"
noncomputable abbrev fIR : Str := "insort_right"
noncomputable abbrev FnBL (G : GC) : Prop := Fn G fBL ["a", "x", "lo", "hi", "key"] [.none] 4 (scAt 8) (bodyAt 8)
noncomputable abbrev FnBR (G : GC) : Prop := Fn G fBR ["a", "x", "lo", "hi", "key"] [.none] 4 (scAt 6) (bodyAt 6)
noncomputable abbrev FnIL (G : GC) : Prop := Fn G fIL ["a", "x", "lo", "hi", "key"] [.int 0, .none, .none] 2 (scAt 7) (bodyAt 7)
noncomputable abbrev FnIR (G : GC) : Prop := Fn G fIR ["a", "x", "lo", "hi", "key"] [.int 0, .none, .none] 2 (scAt 5) (bodyAt 5)

theorem insort_left_ok {G : GC} {n : Nat} {r : Addr} {ns : List Int} {x : Int} {H : HM} (FB : FnBL G) (F : FnIL G) (hr : H r = some (.list (intsOf ns))) (hz : lineOk ns.length)
    {Q : AV → HM → Prop} (q : Q .none (up H r (.list (intsOf (insL ns x))))) : SC G (n + 2) fIL [.ref r, .int x] H Q := by
  refine SC.of_body F ?_
  walk_at "b"
  walk_at "w"
  refine op_isNone (.inl ⟨rfl, rfl⟩) ?_
  refine ⟨_, rfl, fun _ => ?_, (fun h => nomatch h)⟩
  walk_at "w"
  refine SE.callH FB.isFn rfl rfl ?_
  walk_at "w"
  refine bisect_left_ok FB hr hz ?_
  walk_at "w"
  walk_at "m"
  walk_at "w"
  refine ⟨_, _, rfl, hr, ?_⟩
  walk_at "w"
  refine ⟨_, _, rfl, hr, by rw [length_ints]; exact hz, by rw [length_ints]; exact bisLeft_le ns x, ?_⟩
  rw [ints_cut]
  walk_at "w"
  exact q
theorem insort_right_ok {G : GC} {n : Nat} {r : Addr} {ns : List Int} {x : Int} {H : HM} (FB : FnBR G) (F : FnIR G) (hr : H r = some (.list (intsOf ns))) (hz : lineOk ns.length)
    {Q : AV → HM → Prop} (q : Q .none (up H r (.list (intsOf (insR ns x))))) : SC G (n + 2) fIR [.ref r, .int x] H Q := by
  refine SC.of_body F ?_
  walk_at "b"
  walk_at "w"
  refine op_isNone (.inl ⟨rfl, rfl⟩) ?_
  refine ⟨_, rfl, fun _ => ?_, (fun h => nomatch h)⟩
  walk_at "w"
  refine SE.callH FB.isFn rfl rfl ?_
  walk_at "w"
  refine bisect_right_ok FB hr hz ?_
  walk_at "w"
  walk_at "m"
  walk_at "w"
  refine ⟨_, _, rfl, hr, ?_⟩
  walk_at "w"
  refine ⟨_, _, rfl, hr, by rw [length_ints]; exact hz, by rw [length_ints]; exact bisRight_le ns x, ?_⟩
  rw [ints_cut]
  walk_at "w"
  exact q

/-! rows of ints in the made things -/
noncomputable def RL (H : HM) : List Addr → List (List Int) → Prop
  | [], [] => True
  | a :: rs, xs :: xss => H a = some (.list (intsOf xs)) ∧ RL H rs xss
  | _, _ => False
structure RowsAt (H : HM) (r : Addr) (rs : List Addr) (xss : List (List Int)) : Prop where
  list : H r = some (.list (rs.map AV.ref))
  nd : (r :: rs).Nodup
  rows : RL H rs xss
theorem RL.agree {H H' : HM} : ∀ {rs : List Addr} {xss : List (List Int)}, (∀ a ∈ rs, H' a = H a) → RL H rs xss → RL H' rs xss
  | [], [], _, h => h
  | a :: rs, xs :: xss, k, h => ⟨(k a (.head _)).trans h.1, RL.agree (fun b hb => k b (.tail _ hb)) h.2⟩
  | [], _ :: _, _, h => h.elim
  | _ :: _, [], _, h => h.elim
theorem RL.append {H : HM} : ∀ {rs rt : List Addr} {xss yss : List (List Int)}, RL H rs xss → RL H rt yss → RL H (rs ++ rt) (xss ++ yss)
  | [], _, [], _, _, k => k
  | a :: rs, _, xs :: xss, _, h, k => ⟨h.1, RL.append h.2 k⟩
  | [], _, _ :: _, _, h, _ => h.elim
  | _ :: _, _, [], _, h, _ => h.elim
theorem RL.length {H : HM} : ∀ {rs : List Addr} {xss : List (List Int)}, RL H rs xss → rs.length = xss.length
  | [], [], _ => rfl
  | _ :: _, _ :: _, h => by simp [RL.length h.2]
  | [], _ :: _, h => h.elim
  | _ :: _, [], h => h.elim
theorem RL.mem {H : HM} : ∀ {rs : List Addr} {xss : List (List Int)} {a : Addr}, RL H rs xss → a ∈ rs → ∃ xs ∈ xss, H a = some (.list (intsOf xs))
  | b :: rs, xs :: xss, a, h, ha => by
    rcases List.mem_cons.mp ha with rfl | ha
    · exact ⟨xs, .head _, h.1⟩
    · obtain ⟨ys, h1, h2⟩ := RL.mem h.2 ha; exact ⟨ys, .tail _ h1, h2⟩
  | _ :: _, [], _, h, _ => h.elim

noncomputable def idx (c : Int) : List Int → Nat
  | [] => 0
  | x :: r => if x = c then 0 else idx c r + 1
theorem idx_ok (c : Int) : ∀ {l : List Int}, c ∈ l → l[idx c l]? = some c ∧ ∀ m, m < idx c l → l[m]? ≠ some c
  | x :: r, h => by
    unfold idx
    by_cases hx : x = c
    · rw [if_pos hx]; exact ⟨by simp [hx], fun m hm => absurd hm (Nat.not_lt_zero m)⟩
    · rw [if_neg hx]
      have hr : c ∈ r := by rcases List.mem_cons.mp h with e | h; exact absurd e.symm hx; exact h
      obtain ⟨h1, h2⟩ := idx_ok c hr
      refine ⟨by simpa using h1, fun m hm => ?_⟩
      cases m with
      | zero => simpa using hx
      | succ m => simpa using h2 m (by lia)
theorem insL_mem (xs : List Int) (c : Int) : c ∈ insL xs c := by unfold insL; simp
theorem insR_mem (xs : List Int) (c : Int) : c ∈ insR xs c := by unfold insR; simp
theorem insL_length (xs : List Int) (c : Int) : (insL xs c).length = xs.length + 1 := by
  have := bisLeft_le xs c
  unfold insL; simp; lia
theorem insR_length (xs : List Int) (c : Int) : (insR xs c).length = xs.length + 1 := by
  have := bisRight_le xs c
  unfold insR; simp; lia

noncomputable def putL : List (List Int) → Int → List (List Int)
  | [], c => [[c]]
  | xs :: xss, c => if idx c (insL xs c) + 1 = (insL xs c).length then insL xs c :: xss else (insL xs c).eraseIdx (idx c (insL xs c) + 1) :: putL xss ((insL xs c).getD (idx c (insL xs c) + 1) 0)
noncomputable def Bnd (k : Nat) (xss : List (List Int)) : Prop := xss.length ≤ k ∧ ∀ xs ∈ xss, xs.length ≤ k
theorem putL_bnd {k : Nat} : ∀ {xss : List (List Int)} {c : Int}, (∀ xs ∈ xss, xs.length ≤ k) → (putL xss c).length ≤ xss.length + 1 ∧ ∀ xs ∈ putL xss c, xs.length ≤ k + 1
  | [], c, _ => by simp [putL]
  | xs :: xss, c, h => by
    have hx := h xs (.head _)
    unfold putL
    split
    · refine ⟨by simp, fun ys hy => ?_⟩
      rcases List.mem_cons.mp hy with rfl | hy
      · rw [insL_length]; lia
      · have := h ys (.tail _ hy); lia
    · obtain ⟨h1, h2⟩ := putL_bnd (c := (insL xs c).getD (idx c (insL xs c) + 1) 0) fun ys hy => h ys (.tail _ hy)
      refine ⟨by rw [List.length_cons, List.length_cons]; lia, fun ys hy => ?_⟩
      rcases List.mem_cons.mp hy with rfl | hy
      · refine Nat.le_trans (List.length_eraseIdx_le ..) ?_
        rw [insL_length]; lia
      · exact h2 ys hy
theorem Bnd.put {k : Nat} {xss : List (List Int)} {c : Int} (h : Bnd k xss) : Bnd (k + 1) (putL xss c) := by
  obtain ⟨h1, h2⟩ := putL_bnd (c := c) h.2
  exact ⟨by have := h.1; lia, h2⟩

theorem ints_erase : ∀ (ns : List Int) (k : Nat), (intsOf ns).eraseIdx k = intsOf (ns.eraseIdx k)
  | [], _ => rfl
  | _ :: _, 0 => rfl
  | x :: ns, k + 1 => congrArg (AV.int x :: ·) (ints_erase ns k)
noncomputable abbrev fLP : Str := "_law_put"
noncomputable abbrev FnLP (G : GC) : Prop := Fn G fLP ["rows", "call"] [] 2 (scAt 21) (bodyAt 21)

theorem up_del (H : HM) (r : Addr) (m : MO) : up (del H r) r m = up H r m := by
  funext b; unfold up del; split <;> rfl

theorem law_put_ok {G : GC} {n k : Nat} {r : Addr} {rs : List Addr} {xss : List (List Int)} {c : Int} {H : HM} (FB : FnBL G) (FI : FnIL G) (F : FnLP G) (hR : RowsAt H r rs xss) (hB : Bnd k xss) (hk : k < 1000)
    {Q : AV → HM → Prop} (q : ∀ H' rs', RowsAt H' r rs' (putL xss c) → (∀ b m, H b = some m → b ≠ r → b ∉ rs → H' b = some m) → Q .none H') : SC G (n + 3) fLP [.ref r, .int c] H Q := by
  obtain ⟨hlist, hnd, hrows⟩ := hR
  obtain ⟨hr1, hnd2⟩ := List.nodup_cons.mp hnd
  refine SC.of_body F ?_
  walk_at "b"
  walk_at "w"
  refine S1.forRef ?_
  walk_at "w"
  refine ⟨r, _, rfl, hlist, ?_⟩
  refine ForW.invKR (α := Int) ["rows", "call"] (fun c' => [.ref r, .int c'])
    (fun ds c' H' => Ex4 fun rd rr xd xr => A7 (rs = rd ++ rr) (ds = rr.map AV.ref) (RL H' rd xd) (RL H' rr xr) (putL xss c = xd ++ putL xr c') ((∀ xs ∈ xr, xs.length ≤ k)) ((∀ b m, H b = some m → b ≠ r → b ∉ rs → H' b = some m))) ?_ ?_
    _ c _ ⟨[], rs, [], xss, rfl, rfl, trivial, hrows.agree fun a ha => ?_, rfl, hB.2, fun b m e hb _ => by unfold del; rw [if_neg hb]; exact e⟩
  · rintro d ds c' H' ⟨rd, rr, xd, xr, rfl, hds, h1, h2, h3, h4, h5⟩ K hK hR
    cases rr with
    | nil => cases hds
    | cons a rr =>
    cases xr with
    | nil => exact h2.elim
    | cons xs xr =>
    simp only [List.map_cons, List.cons.injEq] at hds
    obtain ⟨rfl, rfl⟩ := hds
    obtain ⟨ha, h2⟩ := h2
    have hxs := h4 xs (.head _)
    have hne1 : ∀ b ∈ rd, b ≠ a := fun b hb e => by
      subst e
      have := (List.nodup_append.mp hnd2).2.2 b hb b (.head _)
      exact this rfl
    have hne2 : ∀ b ∈ rr, b ≠ a := fun b hb e => by
      subst e
      exact (List.nodup_cons.mp (List.nodup_append.mp hnd2).2.1).1 hb
    have har : a ≠ r := fun e => hr1 (by rw [← e]; simp)
    have hlen := insL_length xs c'
    obtain ⟨i1, i2⟩ := idx_ok c' (insL_mem xs c')
    have i3 := (List.getElem?_eq_some_iff.mp i1).1
    walk_at "w"
    refine SE.callH FI.isFn rfl rfl ?_
    walk_at "w"
    refine insort_left_ok FB FI ha (by walk_at "lk") ?_
    walk_at "w"
    walk_at "m"
    walk_at "w"
    refine ⟨a, _, rfl, up_self .., ?_⟩
    walk_at "w"
    refine ⟨insL xs c', c', idx c' (insL xs c'), rfl, up_self .., by walk_at "lk", i1, i2, ?_⟩
    walk_at "w"
    refine op_len (.inr ⟨a, rfl, up_self ..⟩) (by rw [length_ints]; walk_at "lk") ?_
    rw [length_ints]
    walk_at "w"
    refine ⟨_, rfl, fun he => ?_, fun he => ?_⟩
    · have he : idx c' (insL xs c') + 1 = (insL xs c').length := by simp at he; lia
      walk_at "w"
      refine hR _ _ _ (q _ (rd ++ a :: rr) ⟨up_self .., hnd, ?_⟩ fun b m e hb hb2 => ?_)
      · rw [h3]; unfold putL; rw [if_pos he]
        refine RL.append (h1.agree fun b hb => ?_) ⟨?_, h2.agree fun b hb => ?_⟩
        · rw [up_ne _ _ (fun e => hr1 (by rw [← e]; simp [hb])), up_ne _ _ (hne1 b hb)]
        · rw [up_ne _ _ har, up_self]
        · rw [up_ne _ _ (fun e => hr1 (by rw [← e]; simp [hb])), up_ne _ _ (hne2 b hb)]
      · rw [up_ne _ _ hb, up_ne _ _ (fun e => hb2 (by rw [e]; simp))]; exact h5 b m e hb hb2
    · have he : ¬ idx c' (insL xs c') + 1 = (insL xs c').length := by simp at he; lia
      walk_at "w"
      walk_at "m"
      walk_at "w"
      refine ⟨a, _, rfl, up_self .., ?_⟩
      walk_at "w"
      refine ⟨_, _, idx c' (insL xs c') + 1, by simp, up_self .., by rw [length_ints]; walk_at "lk", getD_ints _ _ (by lia), ?_⟩
      walk_at "w"
      refine hK _ _ ⟨(insL xs c').getD (idx c' (insL xs c') + 1) 0, by walk_at "sub", rd ++ [a], rr, xd ++ [(insL xs c').eraseIdx (idx c' (insL xs c') + 1)], xr, by simp, rfl, ?_, ?_, ?_, fun ys hy => h4 ys (.tail _ hy), fun b m e hb hb2 => ?_⟩
      · refine RL.append (h1.agree fun b hb => ?_) ⟨?_, trivial⟩
        · rw [up_ne _ _ (hne1 b hb), up_ne _ _ (hne1 b hb)]
        · rw [up_self]
          have e : (intsOf (insL xs c')).eraseIdx (idx c' (insL xs c') + 1) = intsOf ((insL xs c').eraseIdx (idx c' (insL xs c') + 1)) := by
            exact ints_erase _ _
          rw [e]
      · exact h2.agree fun b hb => by rw [up_ne _ _ (hne2 b hb), up_ne _ _ (hne2 b hb)]
      · rw [h3, putL, if_neg he]; simp
      · have hba : b ≠ a := fun e => hb2 (by rw [e]; simp)
        rw [up_ne _ _ hba, up_ne _ _ hba]; exact h5 b m e hb hb2
  · rintro c' H' ⟨rd, rr, xd, xr, rfl, hds, h1, h2, h3, h4, h5⟩
    have : rr = [] := by simpa using hds.symm
    subst this
    have : xr = [] := by cases xr with | nil => rfl | cons _ _ => exact h2.elim
    subst this
    rw [List.append_nil] at *
    walk_at "w"
    walk_at "m"
    walk_at "w"
    refine ⟨r, _, rfl, up_self .., SE.list_any ?_⟩
    walk_at "w"
    intro r' hr'
    have hne : r' ≠ r := by rintro rfl; rw [up_self] at hr'; cases hr'
    have hr2 : H' r' = none := by rwa [up_ne _ _ hne] at hr'
    have hnr : r' ∉ rd := fun hm => by
      obtain ⟨xs, _, e⟩ := h1.mem hm
      rw [e] at hr2; cases hr2
    refine ⟨_, by rw [up_ne _ _ hne.symm]; exact up_self .., ?_, ?_⟩
    · have := h1.length
      have := hB.1
      have hl := (hrows.length)
      rw [List.length_map]; walk_at "lk"
    walk_at "w"
    refine q _ (rd ++ [r']) ⟨by rw [up_self]; simp, ?_, ?_⟩ fun b m e hb hb2 => ?_
    · rw [← List.cons_append]
      refine List.nodup_append.mpr ⟨hnd, by simp, ?_⟩
      intro a ha b hb e
      rw [List.mem_singleton] at hb; subst hb; subst e
      rcases List.mem_cons.mp ha with e | ha
      · exact hne e
      · exact hnr ha
    · rw [h3]
      refine RL.append (h1.agree fun b hb => ?_) ⟨?_, trivial⟩
      · have hbr : b ≠ r := fun e => hr1 (e ▸ hb)
        have hbr' : b ≠ r' := fun e => hnr (e ▸ hb)
        rw [up_ne _ _ hbr, up_ne _ _ hbr', up_ne _ _ hbr]
      · rw [up_ne _ _ hne, up_self]; rfl
    · have hbr' : b ≠ r' := fun e2 => by
        have := h5 b m e hb hb2
        rw [e2, hr2] at this; cases this
      rw [up_ne _ _ hb, up_ne _ _ hbr', up_ne _ _ hb]
      exact h5 b m e hb hb2
  · unfold del; rw [if_neg (fun e => hr1 (by rw [← e]; exact ha))]

noncomputable def stepAV (p : Bool × Int) : AV := .tup [.bool p.1, .int p.2]
noncomputable def shapeAV (s : List Int) : AV := .lst (intsOf s)
noncomputable def noC (c : Int) (xs : List Int) : List Int := xs.filter fun x => x != c
noncomputable def filtL (c : Int) (xss : List (List Int)) : List (List Int) := (xss.map (noC c)).filter fun xs => !xs.isEmpty
noncomputable def shStep (xss : List (List Int)) (p : Bool × Int) : List (List Int) := if p.1 then filtL p.2 xss else putL xss p.2
noncomputable def shapeOf (xss : List (List Int)) : List Int := xss.map fun xs => (xs.length : Int)
noncomputable def shRun : List (List Int) → List (Bool × Int) → List (List Int)
  | _, [] => []
  | xss, p :: ps => shapeOf (shStep xss p) :: shRun (shStep xss p) ps
noncomputable def shapesL (steps : List (Bool × Int)) : List (List Int) := ([] :: shRun [] steps.reverse).reverse

theorem filtL_bnd {k : Nat} {c : Int} {xss : List (List Int)} (h : Bnd k xss) : Bnd k (filtL c xss) := by
  refine ⟨Nat.le_trans (List.length_filter_le ..) (by rw [List.length_map]; exact h.1), fun xs hx => ?_⟩
  obtain ⟨ys, hy, rfl⟩ := List.mem_map.mp (List.mem_filter.mp hx).1
  exact Nat.le_trans (List.length_filter_le ..) (h.2 ys hy)
theorem shStep_bnd {k : Nat} {p : Bool × Int} {xss : List (List Int)} (h : Bnd k xss) : Bnd (k + 1) (shStep xss p) := by
  unfold shStep
  split
  · have := filtL_bnd (c := p.2) h
    exact ⟨Nat.le_succ_of_le this.1, fun xs hx => Nat.le_succ_of_le (this.2 xs hx)⟩
  · exact h.put

theorem eqv_ints_nil (xs : List Int) : PyData.eqv (.list (pdL (intsOf xs))) (.list []) = xs.isEmpty := by
  cases xs <;> rfl
theorem okD_ints (xs : List Int) : okD 1 (.list (pdL (intsOf xs))) := by
  refine okD.list fun d hd => ?_
  unfold intsOf at hd
  rw [pdL_map] at hd
  obtain ⟨x, _, rfl⟩ := List.mem_map.mp hd
  exact okD.int x
theorem plainL_ints (xs : List Int) : plainL (intsOf xs) = true := plainL_map AV.int (fun _ => rfl) xs

theorem shape_ne_ints {acc : List (List Int)} {xs : List Int} (h : acc ≠ []) : acc.map shapeAV ≠ intsOf xs := by
  cases acc with
  | nil => exact absurd rfl h
  | cons a acc =>
    cases xs with
    | nil => intro e; simp [intsOf] at e
    | cons x xs => intro e; simp [intsOf, shapeAV] at e
theorem filtL_map (c : Int) (xss : List (List Int)) : filtL c xss = (xss.map (noC c)).filter fun xs => !xs.isEmpty := rfl
noncomputable abbrev fLS : Str := "_law_shapes"
noncomputable abbrev FnLS (G : GC) : Prop := Fn G fLS ["steps"] [] 1 (scAt 22) (bodyAt 22)

theorem law_shapes_ok {G : GC} {n : Nat} {steps : List (Bool × Int)} (FB : FnBL G) (FI : FnIL G) (FP : FnLP G) (F : FnLS G) (hz : steps.length < 900)
    {Q : AV → HM → Prop} (q : ∀ H', Q (.lst ((shapesL steps).map shapeAV)) H') : SC G (n + 4) fLS [.lst (steps.map stepAV)] noH Q := by
  refine SC.of_body F ?_
  walk_at "b"
  walk_at "w"
  refine SE.list_any ?_
  walk_at "w"
  intro r hr
  walk_at "w"
  refine SE.list_any ?_
  walk_at "w"
  refine SE.list ?_
  walk_at "w"
  intro sh hsh
  have hne : sh ≠ r := by rintro rfl; rw [up_self] at hsh; cases hsh
  walk_at "w"
  refine S1.weak (σ' := argsOf ["steps", "rows", "shapes"] [.lst (steps.map stepAV), .ref r, .ref sh]) (H' := up (up noH r (.list [])) sh (.list [.lst []])) (by walk_at "sub") (Sub.refl _) ?_
  refine S1.for (SIt.reversed rfl rfl rfl ?_)
  walk_at "w"
  refine ⟨_, rfl, ?_⟩
  rw [← List.map_reverse]
  refine ForW.invK (α := Addr) ["steps", "rows", "shapes"] (fun r => [.lst (steps.map stepAV), .ref r, .ref sh])
    (fun ds r H' => Ex5 fun rest rs xss acc k => A10 (ds = rest.map stepAV) (RowsAt H' r rs xss) (sh ∉ rs) (sh ≠ r) (Bnd k xss) (k + rest.length < 901) (H' sh = some (.list (acc.map shapeAV))) (acc.length + rest.length < 902) (acc ≠ []) (acc ++ shRun xss rest = [] :: shRun [] steps.reverse)) ?_ ?_
    _ r _ ⟨steps.reverse, [], [], [[]], 0, rfl, ⟨by rw [up_ne _ _ hne.symm, up_self]; rfl, by simp, trivial⟩, by simp, hne, ⟨by simp, by simp⟩, by simp; lia, by rw [up_self]; rfl, by simp; lia, by simp, rfl⟩
  · rintro d ds r H' ⟨rest, rs, xss, acc, k, hds, hR, hs1, hs2, hB, hk, hsh, hacc, hne0, hrun⟩ K hK
    cases rest with
    | nil => cases hds
    | cons p rest =>
    obtain ⟨b, c⟩ := p
    simp only [List.map_cons, List.cons.injEq] at hds
    obtain ⟨rfl, rfl⟩ := hds
    refine SA.tuple rfl rfl ⟨rfl, SA.name rfl ⟨rfl, SA.name rfl ?_⟩⟩
    refine SS.midK (α := Addr) ["steps", "rows", "shapes"] (fun r => [.lst (steps.map stepAV), .ref r, .ref sh])
      (fun r H' => Ex1 fun rs => A4 (RowsAt H' r rs (shStep xss (b, c))) (sh ∉ rs) (sh ≠ r) (H' sh = some (.list (acc.map shapeAV)))) ?_ ?_
    · intro K hK
      walk_at "w"
      refine ⟨fun hb => ?_, fun hb => ?_⟩
      · subst hb
        refine SS.cons (S1.assignCompL rfl rfl (SIt.list (SE.leave ?_)))
        walk_at "w"
        refine ⟨r, _, rfl, hR.list, _, rfl, ?_⟩
        have hnd := List.nodup_cons.mp hR.nd
        refine CmpW.indK (fun ds ac H2 => Ex4 fun rr xr nw nx => A11 (ds = rr.map AV.ref) (ac = nw.map AV.ref) (rr.Nodup) (sh ∉ rr) (RL H2 rr xr) (nw.Nodup) (RL H2 nw nx) ((∀ b ∈ nw, b ∉ rr)) (nx ++ xr.map (noC c) = xss.map (noC c)) (H2 sh = some (.list (acc.map shapeAV))) ((∀ xs ∈ xr, xs.length ≤ k))) ?_ ?_
          _ [] _ ⟨rs, xss, [], [], rfl, rfl, hnd.2, hs1, hR.rows.agree fun a ha => ?_, by simp, trivial, by simp, rfl, ?_, hB.2⟩
        · rintro d ds ac H2 ⟨rr, xr, nw, nx, hds, rfl, hr1, hr2, hr3, hn1, hn2, hn3, hx, hsh2, hxl⟩ K hK
          cases rr with
          | nil => cases hds
          | cons a rr =>
          cases xr with
          | nil => exact hr3.elim
          | cons xs xr =>
          simp only [List.map_cons, List.cons.injEq] at hds
          obtain ⟨rfl, rfl⟩ := hds
          obtain ⟨hr1a, hr1b⟩ := List.nodup_cons.mp hr1
          refine ⟨_, rfl, STs.nil ⟨fun _ => ?_, fun e => nomatch e⟩⟩
          refine SE.compL rfl (SIt.list (SE.leave ?_))
          walk_at "w"
          refine ⟨a, _, rfl, hr3.1, _, rfl, ?_⟩
          have hxs := hxl xs (.head _)
          refine CmpW.indK (fun ds ac2 H3 => A2 (H3 = del H2 a) (Ex2 fun rest done => A4 (ds = intsOf rest) (ac2 = intsOf done) (done ++ noC c rest = noC c xs) (done.length + rest.length ≤ k))) ?_ ?_ _ [] _ ⟨rfl, xs, [], rfl, rfl, rfl, by simpa using hxs⟩
          · rintro d ds ac2 H3 ⟨rfl, rest, done, hds, rfl, hd, hl⟩ K hK
            cases rest with
            | nil => cases hds
            | cons x rest =>
            simp only [intsOf, List.map_cons, List.cons.injEq] at hds
            obtain ⟨rfl, rfl⟩ := hds
            refine ⟨_, rfl, STs.one ?_⟩
            walk_at "w"
            refine ⟨_, rfl, fun e => ?_, fun e => ?_⟩
            · walk_at "w"
              refine hK _ _ ⟨by rw [length_ints]; unfold lineOk; simp at hl; lia, rfl, rest, done ++ [x], rfl, by simp [intsOf], ?_, by simp at hl ⊢; lia⟩
              rw [← hd]; unfold noC; rw [List.filter_cons, if_pos e]; simp
            · refine ⟨rfl, rest, done, rfl, rfl, ?_, by simp at hl ⊢; lia⟩
              rw [← hd]; unfold noC; rw [List.filter_cons, if_neg (by rw [e]; exact Bool.false_ne_true)]
          · rintro ac2 H3 ⟨rfl, rest, done, hds, rfl, hd, hl⟩
            have : rest = [] := by cases rest with | nil => rfl | cons _ _ => cases hds
            subst this
            intro D hD
            have hd : done = noC c xs := by rw [← hd]; simp [noC]
            have hda : D ≠ a ∨ D = a := (Classical.em (D = a)).symm
            have hDw : D ∉ nw := fun hm => by
              obtain ⟨ys, _, e⟩ := hn2.mem hm
              have hDa : D ≠ a := fun e2 => hn3 D hm (by rw [e2]; exact .head _)
              unfold del at hD; rw [if_neg hDa, e] at hD; cases hD
            have hDr : D ∉ rr := fun hm => by
              obtain ⟨ys, _, e⟩ := hr3.2.mem hm
              have hDa : D ≠ a := fun e2 => hr1a (e2 ▸ hm)
              unfold del at hD; rw [if_neg hDa, e] at hD; cases hD
            have hDs : D ≠ sh := fun e => by
              have hsa : sh ≠ a := fun e2 => hr2 (by rw [e2]; exact .head _)
              rw [e] at hD; unfold del at hD; rw [if_neg hsa, hsh2] at hD; cases hD
            have hlw := hn2.length
            have hlx := congrArg List.length hx
            refine hK _ _ ⟨?_, rr, xr, nw ++ [D], nx ++ [noC c xs], rfl, by simp, hr1b, fun hm => hr2 (.tail _ hm), ?_, ?_, ?_, ?_, ?_, ?_, fun ys hy => hxl ys (.tail _ hy)⟩
            · rw [List.length_map]; unfold lineOk
              have := hB.1
              simp at hlx; lia
            · refine hr3.2.agree fun b hb => ?_
              rw [up_ne _ _ (fun e => hDr (by rw [← e]; exact hb))]
              unfold del; rw [if_neg (fun e => hr1a (by rw [← e]; exact hb))]
            · refine List.nodup_append.mpr ⟨hn1, by simp, ?_⟩
              intro x hx y hy e
              rw [List.mem_singleton] at hy; subst hy; subst e; exact hDw hx
            · refine RL.append (hn2.agree fun b hb => ?_) ⟨?_, trivial⟩
              · rw [up_ne _ _ (fun e => hDw (by rw [← e]; exact hb))]
                unfold del; rw [if_neg (fun e => hn3 b hb (by rw [e]; exact .head _))]
              · rw [up_self, hd]
            · intro b hb hb2
              rcases List.mem_append.mp hb with hb | hb
              · exact hn3 b hb (.tail _ hb2)
              · rw [List.mem_singleton] at hb; subst hb; exact hDr hb2
            · rw [← hx]; simp
            · rw [up_ne _ _ hDs.symm]
              unfold del; rw [if_neg (fun e => hr2 (by rw [e]; exact .head _))]; exact hsh2
        · rintro ac H2 ⟨rr, xr, nw, nx, hds, rfl, hr1, hr2, hr3, hn1, hn2, hn3, hx, hsh2, hxl⟩
          have : rr = [] := by simpa using hds.symm
          subst this
          have : xr = [] := by cases xr with | nil => rfl | cons _ _ => exact hr3.elim
          subst this
          have hx : nx = xss.map (noC c) := by simpa using hx
          intro D hD
          have hDw : D ∉ nw := fun hm => by
            obtain ⟨ys, _, e⟩ := hn2.mem hm
            rw [e] at hD; cases hD
          have hDs : D ≠ sh := fun e => by rw [e, hsh2] at hD; cases hD
          have hnl : nw.length ≤ k := by
            have := hn2.length
            rw [this, hx, List.length_map]; exact hB.1
          have hwl : ∀ xs ∈ nx, xs.length ≤ k := fun xs hm => by
            rw [hx] at hm
            obtain ⟨ys, hy, rfl⟩ := List.mem_map.mp hm
            exact Nat.le_trans (List.length_filter_le ..) (hB.2 ys hy)
          refine SS.cons (S1.assignCompL rfl rfl (SIt.list (SE.leave ?_)))
          walk_at "w"
          refine ⟨D, _, rfl, up_self .., _, rfl, ?_⟩
          rw [del_up_none _ hD]
          refine CmpW.indK (fun ds ac H3 => A2 (H3 = H2) (Ex4 fun rr xr kw kx => A6 (ds = rr.map AV.ref) (ac = kw.map AV.ref) (RL H2 rr xr) (RL H2 kw kx) (List.Sublist (kw ++ rr) nw) (kx ++ xr.filter (fun xs => !xs.isEmpty) = nx.filter fun xs => !xs.isEmpty))) ?_ ?_
            _ [] _ ⟨rfl, nw, nx, [], [], rfl, rfl, hn2, trivial, by simp, rfl⟩
          · rintro d ds ac H3 ⟨rfl, rr, xr, kw, kx, hds, rfl, h1, h2, h3, h4⟩ K hK
            cases rr with
            | nil => cases hds
            | cons a rr =>
            cases xr with
            | nil => exact h1.elim
            | cons xs xr =>
            simp only [List.map_cons, List.cons.injEq] at hds
            obtain ⟨rfl, rfl⟩ := hds
            refine ⟨_, rfl, STs.one ?_⟩
            walk_at "w"
            refine SE.list ?_
            walk_at "w"
            refine SV2.neD (.inr ⟨a, _, rfl, h1.1, plainL_ints xs, rfl⟩) (.inl ⟨rfl, rfl⟩) ((okD_ints xs).shaped (by decide)) rfl ?_
            rw [show pd (.lst []) = PyData.list [] from rfl, eqv_ints_nil]
            refine ⟨_, rfl, fun e => ?_, fun e => ?_⟩
            · walk_at "w"
              have hkl : kw.length ≤ k := by
                have := h3.length_le; simp at this; lia
              refine hK _ _ ⟨by rw [List.length_map]; walk_at "lk", rfl, rr, xr, kw ++ [a], kx ++ [xs], rfl, by simp, h1.2, h2.append ⟨h1.1, trivial⟩, by simpa using h3, ?_⟩
              rw [← h4, List.filter_cons, if_pos e]; simp
            · refine ⟨rfl, rr, xr, kw, kx, rfl, rfl, h1.2, h2, ?_, ?_⟩
              · refine List.Sublist.trans ?_ h3
                exact List.Sublist.append (List.Sublist.refl _) (List.sublist_cons_self ..)
              · rw [← h4, List.filter_cons, if_neg (by rw [e]; exact Bool.false_ne_true)]
          · rintro ac H3 ⟨rfl, rr, xr, kw, kx, hds, rfl, h1, h2, h3, h4⟩
            have : rr = [] := by simpa using hds.symm
            subst this
            have : xr = [] := by cases xr with | nil => rfl | cons _ _ => exact h1.elim
            subst this
            have h4 : kx = nx.filter fun xs => !xs.isEmpty := by simpa using h4
            rw [List.append_nil] at h3
            intro D2 hD2
            have hsub : ∀ b ∈ kw, b ∈ nw := fun b hb => h3.subset hb
            have hD2w : D2 ∉ kw := fun hm => by
              obtain ⟨ys, _, e⟩ := h2.mem hm
              rw [e] at hD2; cases hD2
            have hD2s : D2 ≠ sh := fun e => by rw [e, hsh2] at hD2; cases hD2
            walk_at "w"
            refine hK _ _ ⟨D2, by walk_at "sub", kw, ⟨up_self .., List.nodup_cons.mpr ⟨hD2w, h3.nodup hn1⟩, ?_⟩, ?_, hD2s.symm, by rw [up_ne _ _ hD2s.symm]; exact hsh2⟩
            · have e : shStep xss (true, c) = kx := by rw [h4, hx]; rfl
              rw [e]
              exact h2.agree fun b hb => by rw [up_ne _ _ (fun e => hD2w (by rw [← e]; exact hb))]
            · intro hm
              obtain ⟨xs, _, e⟩ := h2.mem hm
              rw [hsh2] at e
              exact shape_ne_ints hne0 (by simpa using e)
        · unfold del; rw [if_neg (fun e => hnd.1 (by rw [← e]; exact ha))]
        · unfold del; rw [if_neg hs2]; exact hsh
      · subst hb
        walk_at "w"
        refine SE.callH FP.isFn rfl rfl ?_
        walk_at "w"
        refine law_put_ok FB FI FP hR hB (by simp at hk; lia) fun H2 rs' hR2 hfr => ?_
        walk_at "w"
        have hsh2 := hfr sh _ hsh hs2 hs1
        refine hK _ _ ⟨r, by walk_at "sub", rs', hR2, fun hm => ?_, hs2, hsh2⟩
        obtain ⟨xs, _, e⟩ := hR2.rows.mem hm
        rw [hsh2] at e
        exact shape_ne_ints hne0 (by simpa using e)
    · rintro r2 H2 ⟨rs2, hR2, hs3, hs4, hsh2⟩
      have hB2 := shStep_bnd (p := (b, c)) hB
      have hnd := List.nodup_cons.mp hR2.nd
      walk_at "w"
      walk_at "m"
      walk_at "w"
      refine ⟨sh, _, rfl, hsh2, SE.leave (SE.compLRef rfl ?_)⟩
      walk_at "w"
      refine ⟨r2, _, rfl, hR2.list, ?_⟩
      refine CmpW.indK (fun ds ac H3 => A2 (H3 = del H2 r2) (Ex3 fun rr xr done => A5 (ds = rr.map AV.ref) (RL (del H2 r2) rr xr) (ac = intsOf done) (done ++ shapeOf xr = shapeOf (shStep xss (b, c))) ((∀ xs ∈ xr, xs.length ≤ k + 1)))) ?_ ?_
        _ [] _ ⟨rfl, rs2, _, [], rfl, hR2.rows.agree fun a ha => ?_, rfl, rfl, hB2.2⟩
      · rintro d ds ac H3 ⟨rfl, rr, xr, done, hds, h1, rfl, h2, h3⟩ K hK
        cases rr with
        | nil => cases hds
        | cons a rr =>
        cases xr with
        | nil => exact h1.elim
        | cons xs xr =>
        simp only [List.map_cons, List.cons.injEq] at hds
        obtain ⟨rfl, rfl⟩ := hds
        have hxs := h3 xs (.head _)
        refine ⟨_, rfl, STs.nil ⟨fun _ => ?_, fun e => nomatch e⟩⟩
        walk_at "w"
        refine op_len (.inr ⟨a, rfl, h1.1⟩) (by rw [length_ints]; unfold lineOk; simp at hk; lia) ?_
        rw [length_ints]
        have hdl := congrArg List.length h2
        have := hB2.1
        refine hK _ _ ⟨by rw [length_ints]; unfold lineOk; unfold shapeOf at hdl; simp at hdl hk; lia, rfl, rr, xr, done ++ [(xs.length : Int)], rfl, h1.2, by simp [intsOf], ?_, fun ys hy => h3 ys (.tail _ hy)⟩
        rw [← h2]; simp [shapeOf]
      · rintro ac H3 ⟨rfl, rr, xr, done, hds, h1, rfl, h2, h3⟩
        have : rr = [] := by simpa using hds.symm
        subst this
        have : xr = [] := by cases xr with | nil => rfl | cons _ _ => exact h1.elim
        subst this
        have h2 : done = shapeOf (shStep xss (b, c)) := by rw [← h2]; simp [shapeOf]
        intro D hD hDr
        rw [up_del]
        have hD2 : H2 D = none := by unfold del at hD; rwa [if_neg hDr] at hD
        have hDs : D ≠ sh := fun e => by rw [e, hsh2] at hD2; cases hD2
        have hDw : D ∉ rs2 := fun hm => by
          obtain ⟨ys, _, e⟩ := hR2.rows.mem hm
          rw [e] at hD2; cases hD2
        refine ⟨D, _, rfl, up_self .., ?_⟩
        rw [del_up_none _ (by rw [up_ne _ _ hDr]; exact hD2)]
        refine ⟨_, by rw [up_ne _ _ hs4]; exact hsh2, by rw [List.length_map]; unfold lineOk; simp at hacc; lia, ?_⟩
        walk_at "w"
        refine hK _ _ ⟨r2, by walk_at "sub", rest, rs2, shStep xss (b, c), acc ++ [shapeOf (shStep xss (b, c))], k + 1, rfl, ⟨?_, hR2.nd, hR2.rows.agree fun a ha => ?_⟩, hs3, hs4, hB2, by simp at hk ⊢; lia, ?_, by simp at hacc ⊢; lia, by simp, ?_⟩
        · rw [up_ne _ _ hs4.symm, up_self]
        · have ha1 : a ≠ sh := fun e => hs3 (e ▸ ha)
          have ha2 : a ≠ r2 := fun e => hnd.1 (e ▸ ha)
          rw [up_ne _ _ ha1, up_ne _ _ ha2]
        · rw [up_self, h2]; simp [shapeAV]
        · rw [← hrun]; simp [shRun]
      · unfold del; rw [if_neg (fun e => hnd.1 (by rw [← e]; exact ha))]
  · rintro r H' ⟨rest, rs, xss, acc, k, hds, hR, hs1, hs2, hB, hk, hsh, hacc, hne0, hrun⟩
    have : rest = [] := by simpa using hds.symm
    subst this
    walk_at "w"
    walk_at "m"
    walk_at "w"
    refine ⟨sh, _, rfl, hsh, by rw [List.length_map]; unfold lineOk; simp at hacc; lia, ?_⟩
    refine SS.cons (S1.ret (SE.leave ?_))
    walk_at "w"
    refine ⟨sh, _, rfl, up_self .., ?_⟩
    have e : (acc.map shapeAV).reverse = (shapesL steps).map shapeAV := by
      rw [← List.map_reverse]; unfold shapesL
      rw [← hrun]; simp [shRun]
    rw [e]
    exact q _

noncomputable def cpL (t : List (Int × Int)) : List (Int × Int) := t.foldl (fun acc kv => dset acc kv.1 kv.2) []
noncomputable def addOne (acc : List (Int × Int)) (kv : Int × Int) : List (Int × Int) := match dget acc kv.1 with
  | some v => dset acc kv.1 (v + kv.2)
  | none => dset acc kv.1 kv.2
noncomputable def addL (t s : List (Int × Int)) : List (Int × Int) := s.foldl addOne (cpL t)
theorem dset_length (acc : List (Int × Int)) (k v : Int) : (dset acc k v).length ≤ acc.length + 1 := by
  unfold dset; split <;> simp
theorem addOne_length (acc : List (Int × Int)) (kv : Int × Int) : (addOne acc kv).length ≤ acc.length + 1 := by
  unfold addOne; split <;> exact dset_length ..
theorem fold_length {f : List (Int × Int) → (Int × Int) → List (Int × Int)} (h : ∀ acc kv, (f acc kv).length ≤ acc.length + 1) : ∀ (l acc : List (Int × Int)), (l.foldl f acc).length ≤ acc.length + l.length
  | [], acc => by simp
  | kv :: l, acc => by
    have h1 := fold_length h l (f acc kv)
    have h2 := h acc kv
    simp only [List.foldl_cons, List.length_cons]; lia
theorem addL_length (t s : List (Int × Int)) : (addL t s).length ≤ t.length + s.length := by
  have h1 := fold_length addOne_length s (cpL t)
  have h2 := fold_length (f := fun acc kv => dset acc kv.1 kv.2) (fun acc kv => dset_length acc kv.1 kv.2) t []
  unfold addL cpL at *; simp at h2; lia

noncomputable abbrev fAC : Str := "add_callers"
noncomputable abbrev fCC : Str := "count_calls"
noncomputable abbrev fLC : Str := "_law_columns"
noncomputable abbrev FnAC (G : GC) : Prop := Fn G fAC ["target", "source"] [] 2 (scAt 15) (bodyAt 15)
noncomputable abbrev FnCC (G : GC) : Prop := Fn G fCC ["callers"] [] 1 (scAt 16) (bodyAt 16)
noncomputable abbrev FnLC (G : GC) : Prop := Fn G fLC ["shape"] [] 1 (scAt 23) (bodyAt 23)

theorem add_callers_ok {G : GC} {n : Nat} {t s : List (Int × Int)} (F : FnAC G) (hz : t.length + s.length < 1000000)
    {Q : AV → HM → Prop} (q : ∀ H', Q (.dct (addL t s)) H') : SC G (n + 1) fAC [.dct t, .dct s] noH Q := by
  refine SC.of_body F ?_
  walk_at "b"
  walk_at "w"
  refine SE.dict0 ?_
  intro r hr
  walk_at "w"
  refine S1.weak (σ' := argsOf ["target", "source", "new_callers"] [.dct t, .dct s, .ref r]) (H' := up noH r (.dict [])) (by walk_at "sub") (Sub.refl _) ?_
  refine S1.forItems rfl (fun _ => rfl) rfl ?_
  walk_at "w"
  refine ⟨t, rfl, ?_⟩
  refine ForW.invK (α := Unit) ["target", "source", "new_callers"] (fun _ => [.dct t, .dct s, .ref r])
    (fun ds _ H' => Ex2 fun rest acc => A4 (ds = rest.map itemAV) (H' r = some (.dict acc)) (rest.foldl (fun acc kv => dset acc kv.1 kv.2) acc = cpL t) (acc.length + rest.length ≤ t.length)) ?_ ?_ _ () _ ⟨t, [], rfl, up_self .., rfl, by simp⟩
  · rintro d ds _ H' ⟨rest, acc, hds, h1, h2, h3⟩ K hK
    cases rest with
    | nil => cases hds
    | cons kv rest =>
    simp only [List.map_cons, List.cons.injEq] at hds
    obtain ⟨rfl, rfl⟩ := hds
    simp only [List.length_cons] at h3
    refine SA.pair rfl rfl ?_
    walk_at "w"
    refine SA.setD ?_
    walk_at "w"
    refine ⟨r, acc, _, _, rfl, h1, rfl, rfl, by walk_at "lk", ?_⟩
    walk_at "w"
    refine hK _ _ ⟨(), by walk_at "sub", rest, _, rfl, up_self .., h2, ?_⟩
    have := dset_length acc kv.1 kv.2
    lia
  rintro _ H' ⟨rest, acc, hds, h1, h2, h3⟩
  have : rest = [] := by simpa using hds.symm
  subst this
  have h2 : acc = cpL t := h2
  walk_at "w"
  refine S1.forItems rfl (fun _ => rfl) rfl ?_
  walk_at "w"
  refine ⟨s, rfl, ?_⟩
  refine ForW.invK (α := Unit) ["target", "source", "new_callers"] (fun _ => [.dct t, .dct s, .ref r])
    (fun ds _ H' => Ex2 fun rest acc => A4 (ds = rest.map itemAV) (H' r = some (.dict acc)) (rest.foldl addOne acc = addL t s) (acc.length + rest.length ≤ t.length + s.length)) ?_ ?_ _ () _ ⟨s, acc, rfl, h1, by rw [h2]; rfl, by simp at h3; lia⟩
  · rintro d ds _ H' ⟨rest, acc, hds, h1, h2, h3⟩ K hK
    cases rest with
    | nil => cases hds
    | cons kv rest =>
    simp only [List.map_cons, List.cons.injEq] at hds
    obtain ⟨rfl, rfl⟩ := hds
    simp only [List.length_cons] at h3
    have hl := addOne_length acc kv
    have hd : DctOf H' (.ref r) acc := .inr ⟨r, rfl, h1⟩
    refine SA.pair rfl rfl ?_
    walk_at "w"
    refine op_din hd ?_
    refine ⟨_, rfl, fun e => ?_, fun e => ?_⟩
    · obtain ⟨v, hv⟩ := Option.isSome_iff_exists.mp e
      have e1 : addOne acc kv = dset acc kv.1 (v + kv.2) := by unfold addOne; rw [hv]
      walk_at "w"
      refine ST.val (fun _ _ => rfl) (SE.isTup rfl rfl rfl rfl ?_)
      walk_at "w"
      refine ⟨_, rfl, _, rfl, (fun e => nomatch e), fun _ => ?_⟩
      walk_at "w"
      refine S1.augD (fun _ _ _ => rfl) ?_
      walk_at "w"
      refine ⟨r, acc, _, v, rfl, h1, rfl, hv, by walk_at "lk", ?_⟩
      walk_at "w"
      refine ⟨_, rfl, rfl, ?_⟩
      walk_at "w"
      refine hK _ _ ⟨(), by walk_at "sub", rest, _, rfl, up_self .., by rw [← e1]; exact h2, ?_⟩
      rw [← e1]; lia
    · have hn : dget acc kv.1 = none := by simpa using e
      have e1 : addOne acc kv = dset acc kv.1 kv.2 := by unfold addOne; rw [hn]
      walk_at "w"
      refine SA.setD ?_
      walk_at "w"
      refine ⟨r, acc, _, _, rfl, h1, rfl, rfl, by walk_at "lk", ?_⟩
      walk_at "w"
      refine hK _ _ ⟨(), by walk_at "sub", rest, _, rfl, up_self .., by rw [← e1]; exact h2, ?_⟩
      rw [← e1]; lia
  rintro _ H' ⟨rest, acc, hds, h1, h2, h3⟩
  have : rest = [] := by simpa using hds.symm
  subst this
  have h2 : acc = addL t s := h2
  refine SS.cons (S1.ret (SE.leaveD ?_))
  walk_at "w"
  refine ⟨r, acc, rfl, h1, ?_⟩
  rw [h2]
  exact q _

theorem count_calls_ok {G : GC} {n : Nat} {t : List (Int × Int)} (F : FnCC G)
    {Q : AV → HM → Prop} (q : ∀ H', Q (.int (t.map (·.2)).sum) H') : SC G (n + 1) fCC [.dct t] noH Q := by
  refine SC.of_body F ?_
  walk_at "b"
  walk_at "w"
  refine S1.weak (σ' := argsOf ["callers", "nc"] [.dct t, .int 0]) (H' := noH) (by walk_at "sub") (Sub.refl _) ?_
  refine S1.for (SIt.values rfl ?_) 
  walk_at "w"
  refine ⟨t, rfl, ?_⟩
  refine ForW.invK (α := Int) ["callers", "nc"] (fun c => [.dct t, .int c])
    (fun ds c H' => Ex1 fun (rest : List Int) => A2 (ds = intsOf rest) (c + rest.sum = (t.map (·.2)).sum)) ?_ ?_ _ 0 _ ⟨t.map (·.2), by simp [intsOf], by simp⟩
  · rintro d ds c H' ⟨rest, hds, h2⟩ K hK
    cases rest with
    | nil => cases hds
    | cons x rest =>
    simp only [intsOf, List.map_cons, List.cons.injEq] at hds
    obtain ⟨rfl, rfl⟩ := hds
    walk_at "w"
    refine hK _ _ ⟨c + x, by walk_at "sub", rest, rfl, ?_⟩
    rw [← h2]; simp; lia
  rintro c H' ⟨rest, hds, h2⟩
  have : rest = [] := by cases rest with | nil => rfl | cons _ _ => cases hds
  subst this
  have h2 : c = (t.map (·.2)).sum := by simpa using h2
  walk_at "w"
  rw [h2]
  exact q _

noncomputable def onesL (len : Int) : List (Int × Int) := ((List.range len.toNat).map fun (i : Nat) => ((i : Int), (1 : Int))).foldl (fun acc kv => dset acc kv.1 kv.2) []
theorem onesL_length (len : Int) : (onesL len).length ≤ len.toNat := by
  have := fold_length (f := fun acc kv => dset acc kv.1 kv.2) (fun acc kv => dset_length acc kv.1 kv.2) ((List.range len.toNat).map fun (i : Nat) => ((i : Int), (1 : Int))) []
  unfold onesL
  simpa using this
noncomputable def colL (shape : List Int) : List (Int × Int) := shape.foldl (fun acc len => addL acc (onesL len)) []

theorem law_columns_ok {G : GC} {n : Nat} {shape : List Int} (FA : FnAC G) (F : FnLC G) (hz : shape.length < 900) (hs : ∀ x ∈ shape, 0 ≤ x ∧ x < 900)
    {Q : AV → HM → Prop} (q : ∀ H', Q (.dct (colL shape)) H') : SC G (n + 2) fLC [.lst (intsOf shape)] noH Q := by
  refine SC.of_body F ?_
  walk_at "b"
  walk_at "w"
  refine SE.leaveD (SE.dict0 ?_)
  intro r hr
  refine ⟨r, [], rfl, up_self .., ?_⟩
  rw [del_up_none _ hr]
  walk_at "w"
  refine S1.weak (σ' := argsOf ["shape", "columns"] [.lst (intsOf shape), .dct []]) (H' := noH) (by walk_at "sub") (Sub.refl _) ?_
  refine S1.for (SIt.list ?_)
  walk_at "w"
  refine ⟨_, rfl, ?_⟩
  refine ForW.invK (α := List (Int × Int)) ["shape", "columns"] (fun c => [.lst (intsOf shape), .dct c])
    (fun ds c H' => Ex1 fun (rest : List Int) => A4 (ds = intsOf rest) (rest.foldl (fun acc len => addL acc (onesL len)) c = colL shape) ((∀ x ∈ rest, 0 ≤ x ∧ x < 900)) (c.length + rest.length * 900 ≤ shape.length * 900)) ?_ ?_ _ [] _ ⟨shape, rfl, rfl, hs, by simp⟩
  · rintro d ds c H' ⟨rest, hds, h2, h3, h4⟩ K hK
    cases rest with
    | nil => cases hds
    | cons x rest =>
    simp only [intsOf, List.map_cons, List.cons.injEq] at hds
    obtain ⟨rfl, rfl⟩ := hds
    obtain ⟨hx0, hx1⟩ := h3 x (.head _)
    have hol := onesL_length x
    have hal := addL_length c (onesL x)
    simp only [List.length_cons] at h4
    walk_at "w"
    refine SE.callP FA.isFn ?_ rfl rfl
    walk_at "w"
    refine SE.leaveD (SE.compD rfl (SIt.range rfl rfl rfl ?_))
    walk_at "w"
    refine ⟨x.toNat, by rw [Int.toNat_of_nonneg hx0], by walk_at "lk", ?_⟩
    refine CmpW.indD (fun ds acc H2 => A2 (H2 = H') (Ex1 fun (rest : List Nat) => A3 (ds = rest.map (fun (i : Nat) => AV.int (i : Int))) ((rest.map fun (i : Nat) => ((i : Int), (1 : Int))).foldl (fun acc kv => dset acc kv.1 kv.2) acc = onesL x) (acc.length + rest.length ≤ x.toNat))) ?_ ?_ _ [] _ ⟨rfl, List.range x.toNat, rfl, rfl, by simp⟩
    · rintro d ds acc H2 ⟨rfl, rest, hds, h5, h6⟩
      cases rest with
      | nil => cases hds
      | cons i rest =>
      simp only [List.map_cons, List.cons.injEq] at hds
      obtain ⟨rfl, rfl⟩ := hds
      simp only [List.length_cons] at h6
      refine ⟨by walk_at "lk", _, rfl, STs.nil ⟨fun _ => ?_, fun e => nomatch e⟩⟩
      walk_at "w"
      refine ⟨_, rfl, ?_⟩
      walk_at "w"
      refine ⟨_, rfl, rfl, rest, rfl, h5, ?_⟩
      have := dset_length acc i 1
      lia
    · rintro acc H2 ⟨rfl, rest, hds, h5, h6⟩
      have : rest = [] := by simpa using hds.symm
      subst this
      have h5 : acc = onesL x := h5
      intro D hD
      refine ⟨D, acc, rfl, up_self .., ?_⟩
      rw [del_up_none _ hD, h5]
      walk_at "w"
      refine add_callers_ok FA (by lia) fun H3 => ?_
      walk_at "w"
      refine hK _ _ ⟨addL c (onesL x), by walk_at "sub", _, rfl, h2, fun y hy => h3 y (.tail _ hy), ?_⟩
      lia
  rintro c H' ⟨rest, hds, h2, h3, h4⟩
  have : rest = [] := by cases rest with | nil => rfl | cons _ _ => cases hds
  subst this
  have h2 : c = colL shape := h2
  walk_at "w"
  rw [h2]
  exact q _

noncomputable def cmpR : List Int → List Int → Option Nat
  | [], _ => some 0
  | _ :: _, [] => none
  | x :: xs, y :: ys => if x = y then (cmpR xs ys).map (· + 1) else some 0
noncomputable def downL : List (List Int) → Int → Option (List (List Int) × Int)
  | [], c => some ([], c)
  | xs :: rest, c => if idx c (insR xs c) = 0 then none else
      (downL rest ((insR xs c).getD (idx c (insR xs c) - 1) 0)).map fun p => ((insR xs c).eraseIdx (idx c (insR xs c) - 1) :: p.1, p.2)
noncomputable def unStep (rows : List (List Int)) (bg : Int) (a b : List Int) : Option (List (List Int) × (Bool × Int) × Int) :=
  if a.sum < b.sum then
    match cmpR a b with
    | none => none
    | some r => match (if r = rows.length then rows ++ [[]] else rows)[r]? with
      | none => none
      | some xs => some ((if r = rows.length then rows ++ [[]] else rows).set r (xs ++ [bg]), (true, bg), bg + 1)
  else
    match cmpR b a with
    | none => none
    | some r => match rows[r]? with
      | none => none
      | some xs => match xs.getLast? with
        | none => none
        | some c => match downL ((if xs.dropLast.isEmpty then (rows.set r xs.dropLast).dropLast else rows.set r xs.dropLast).take r).reverse c with
          | none => none
          | some (nw, c') => some (nw.reverse ++ (if xs.dropLast.isEmpty then (rows.set r xs.dropLast).dropLast else rows.set r xs.dropLast).drop r, (false, c'), bg)
noncomputable def unRun : List (List Int) → Int → List (List Int) → Option (List (Bool × Int))
  | rows, bg, a :: b :: rest => match unStep rows bg a b with
    | none => none
    | some (rows', st, bg') => (unRun rows' bg' (b :: rest)).map (st :: ·)
  | _, _, _ => some []
noncomputable def unwindL (shapes : List (List Int)) : Option (List (Bool × Int)) := unRun [] 0 shapes

theorem cmpR_le : ∀ {a b : List Int} {r : Nat}, cmpR a b = some r → r ≤ a.length
  | [], _, r, h => by cases h; exact Nat.zero_le _
  | _ :: _, [], r, h => by cases h
  | x :: xs, y :: ys, r, h => by
    unfold cmpR at h
    split at h
    · rw [Option.map_eq_some_iff] at h
      obtain ⟨m, h1, rfl⟩ := h
      have := cmpR_le h1
      simp; lia
    · cases h; exact Nat.zero_le _

theorem RL.get {H : HM} : ∀ {rs : List Addr} {xss : List (List Int)} {i : Nat} {xs : List Int}, RL H rs xss → xss[i]? = some xs → ∃ a, rs[i]? = some a ∧ H a = some (.list (intsOf xs))
  | a :: rs, ys :: xss, 0, xs, h, e => by simp at e; subst e; exact ⟨a, rfl, h.1⟩
  | a :: rs, ys :: xss, i + 1, xs, h, e => by simpa using RL.get h.2 (by simpa using e)
  | [], [], i, xs, h, e => by simp at e
  | [], _ :: _, _, _, h, _ => h.elim
  | _ :: _, [], _, _, h, _ => h.elim
theorem RL.set {H : HM} {a : Addr} {ys : List Int} : ∀ {rs : List Addr} {xss : List (List Int)} {i : Nat}, RL H rs xss → rs.Nodup → rs[i]? = some a → RL (up H a (.list (intsOf ys))) rs (xss.set i ys)
  | b :: rs, xs :: xss, 0, h, hn, e => by
    simp at e; subst e
    exact ⟨up_self .., h.2.agree fun c hc => up_ne _ _ (fun e => (List.nodup_cons.mp hn).1 (e ▸ hc))⟩
  | b :: rs, xs :: xss, i + 1, h, hn, e => by
    have hm : a ∈ rs := List.mem_of_getElem? (by simpa using e)
    exact ⟨by rw [up_ne _ _ (fun e => (List.nodup_cons.mp hn).1 (by rw [e]; exact hm))]; exact h.1, RL.set h.2 (List.nodup_cons.mp hn).2 (by simpa using e)⟩
  | [], _, i, h, hn, e => by simp at e
  | _ :: _, [], _, h, _, _ => h.elim
theorem RL.take {H : HM} : ∀ {rs : List Addr} {xss : List (List Int)} (k : Nat), RL H rs xss → RL H (rs.take k) (xss.take k)
  | [], [], k, h => by simp [RL]
  | _ :: _, _ :: _, 0, h => trivial
  | _ :: _, _ :: _, k + 1, h => ⟨h.1, RL.take k h.2⟩
  | [], _ :: _, _, h => h.elim
  | _ :: _, [], _, h => h.elim
theorem RL.drop {H : HM} : ∀ {rs : List Addr} {xss : List (List Int)} (k : Nat), RL H rs xss → RL H (rs.drop k) (xss.drop k)
  | [], [], k, h => by simp [RL]
  | _ :: _, _ :: _, 0, h => h
  | _ :: _, _ :: _, k + 1, h => RL.drop k h.2
  | [], _ :: _, _, h => h.elim
  | _ :: _, [], _, h => h.elim
theorem RL.reverse {H : HM} : ∀ {rs : List Addr} {xss : List (List Int)}, RL H rs xss → RL H rs.reverse xss.reverse
  | [], [], h => trivial
  | a :: rs, xs :: xss, h => by
    rw [List.reverse_cons, List.reverse_cons]
    exact RL.append (RL.reverse h.2) ⟨h.1, trivial⟩
  | [], _ :: _, h => h.elim
  | _ :: _, [], h => h.elim
theorem RL.dropLast {H : HM} {rs : List Addr} {xss : List (List Int)} (h : RL H rs xss) : RL H rs.dropLast xss.dropLast := by
  rw [List.dropLast_eq_take, List.dropLast_eq_take, h.length]
  exact h.take _
theorem Bnd.set {k i : Nat} {xss : List (List Int)} {xs : List Int} (h : Bnd k xss) (hx : xs.length ≤ k) : Bnd k (xss.set i xs) := by
  refine ⟨by rw [List.length_set]; exact h.1, fun ys hy => ?_⟩
  rcases List.mem_or_eq_of_mem_set hy with hy | rfl
  · exact h.2 _ hy
  · exact hx
theorem Bnd.mono {k m : Nat} {xss : List (List Int)} (h : Bnd k xss) (hm : k ≤ m) : Bnd m xss := ⟨Nat.le_trans h.1 hm, fun xs hx => Nat.le_trans (h.2 xs hx) hm⟩
theorem Bnd.dropLast {k : Nat} {xss : List (List Int)} (h : Bnd k xss) : Bnd k xss.dropLast :=
  ⟨by rw [List.length_dropLast]; have := h.1; lia, fun xs hx => h.2 xs (List.dropLast_subset _ hx)⟩
theorem downL_bnd {k : Nat} : ∀ {xss nw : List (List Int)} {c c' : Int}, downL xss c = some (nw, c') → (∀ xs ∈ xss, xs.length ≤ k) → nw.length = xss.length ∧ ∀ xs ∈ nw, xs.length ≤ k
  | [], nw, c, c', h, _ => by cases h; simp
  | xs :: rest, nw, c, c', h, hb => by
    unfold downL at h
    split at h
    · cases h
    · rename_i hi
      rw [Option.map_eq_some_iff] at h
      obtain ⟨⟨nw', c2⟩, h1, h2⟩ := h
      cases h2
      obtain ⟨h3, h4⟩ := downL_bnd h1 fun ys hy => hb ys (.tail _ hy)
      refine ⟨by simp [h3], fun ys hy => ?_⟩
      rcases List.mem_cons.mp hy with rfl | hy
      · have h5 := (List.getElem?_eq_some_iff.mp (idx_ok c (insR_mem xs c)).1).1
        have h6 := insR_length xs c
        have h7 := hb xs (.head _)
        simp only at *
        rw [List.length_eraseIdx_of_lt (by lia)]; lia
      · exact h4 ys hy

noncomputable abbrev fLU : Str := "_law_unwind"
noncomputable abbrev FnLU (G : GC) : Prop := Fn G fLU ["shapes"] [] 1 (scAt 24) (bodyAt 24)

theorem range_drop {N j : Nat} (h : j < N) : (List.range N).drop j = j :: (List.range N).drop (j + 1) := by
  rw [List.drop_eq_getElem_cons (by simpa using h)]; simp
theorem get_map {α β : Type} {f : α → β} {l : List α} {i : Nat} {x : α} (h : l[i]? = some x) : (l.map f)[i]? = some (f x) := by rw [List.getElem?_map, h]; rfl
theorem unStep_cmp {rows : List (List Int)} {bg : Int} {a b : List Int} {p : List (List Int) × (Bool × Int) × Int} (h : unStep rows bg a b = some p) : ∃ R, cmpR (if a.sum < b.sum then a else b) (if a.sum < b.sum then b else a) = some R := by
  unfold unStep at h
  split at h
  · rename_i hb
    rw [if_pos hb, if_pos hb]
    cases hc : cmpR a b with
    | none => rw [hc] at h; cases h
    | some R => exact ⟨R, rfl⟩
  · rename_i hb
    rw [if_neg hb, if_neg hb]
    cases hc : cmpR b a with
    | none => rw [hc] at h; cases h
    | some R => exact ⟨R, rfl⟩
theorem cmpR_drop {le mo : List Int} {r R : Nat} (h : cmpR (le.drop r) (mo.drop r) = some (R - r)) (hr : r < le.length) (hR : r ≤ R) :
    ∃ x y, le[r]? = some x ∧ mo[r]? = some y ∧ (x = y → r + 1 ≤ R ∧ cmpR (le.drop (r + 1)) (mo.drop (r + 1)) = some (R - (r + 1))) ∧ (x ≠ y → R = r) := by
  rw [List.drop_eq_getElem_cons hr] at h
  rcases Nat.lt_or_ge r mo.length with hm | hm
  · rw [List.drop_eq_getElem_cons hm] at h
    refine ⟨_, _, List.getElem?_eq_getElem hr, List.getElem?_eq_getElem hm, fun e => ?_, fun e => ?_⟩
    · rw [cmpR, if_pos e, Option.map_eq_some_iff] at h
      obtain ⟨m, h1, h2⟩ := h
      exact ⟨by lia, by rw [h1]; congr 1; lia⟩
    · rw [cmpR, if_neg e] at h
      cases h' : R - r with
      | zero => lia
      | succ m => rw [h'] at h; cases h
  · rw [List.drop_eq_nil_of_le hm] at h; cases h

theorem drop_at {α : Type} {l : List α} {j : Nat} {a : α} (h : l[j]? = some a) : l.drop j = a :: l.drop (j + 1) := by
  obtain ⟨h1, h2⟩ := List.getElem?_eq_some_iff.mp h
  rw [List.drop_eq_getElem_cons h1, h2]
theorem law_unwind_ok {G : GC} {n : Nat} {shapes : List (List Int)} {st : List (Bool × Int)} (FB : FnBR G) (FI : FnIR G) (F : FnLU G) (hne0 : shapes ≠ []) (hz : shapes.length < 900) (hz2 : ∀ s ∈ shapes, s.length < 900) (hu : unwindL shapes = some st)
    {Q : AV → HM → Prop} (q : ∀ H', Q (.lst (st.map stepAV)) H') : SC G (n + 4) fLU [.lst (shapes.map shapeAV)] noH Q := by
  have hlen0 : 0 < shapes.length := List.length_pos_iff.mpr hne0
  refine SC.of_body F ?_
  walk_at "b"
  walk_at "w"
  refine SE.list_any ?_
  walk_at "w"
  intro r hr
  walk_at "w"
  refine SE.list_any ?_
  walk_at "w"
  intro sh hsh
  have hne : sh ≠ r := by rintro rfl; rw [up_self] at hsh; cases hsh
  walk_at "w"
  refine S1.weak (σ' := argsOf ["shapes", "rows", "steps", "begun"] [.lst (shapes.map shapeAV), .ref r, .ref sh, .int 0]) (H' := up (up noH r (.list [])) sh (.list [])) (by walk_at "sub") (Sub.refl _) ?_
  refine S1.for (SIt.range rfl rfl rfl ?_)
  walk_at "w"
  refine op_len (.inl rfl) (by rw [List.length_map]; walk_at "lk") ?_
  rw [List.length_map]
  walk_at "w"
  refine ⟨shapes.length - 1, by congr 1; lia, by walk_at "lk", ?_⟩
  refine ForW.invK (α := Int) ["shapes", "rows", "steps", "begun"] (fun bg => [.lst (shapes.map shapeAV), .ref r, .ref sh, .int bg])
    (fun ds bg H' => Ex5 fun j rs xss acc st' => A9 (ds = ((List.range (shapes.length - 1)).drop j).map (fun (i : Nat) => AV.int (i : Int))) (j ≤ shapes.length - 1) (RowsAt H' r rs xss) (sh ∉ rs) (H' sh = some (.list (acc.map stepAV))) (acc.length = j) (Bnd j xss) (unRun xss bg (shapes.drop j) = some st') (acc ++ st' = st)) ?_ ?_
    _ 0 _ ⟨0, [], [], [], st, rfl, Nat.zero_le _, ⟨by rw [up_ne _ _ hne.symm, up_self]; rfl, by simp, trivial⟩, by simp, up_self .., rfl, ⟨by simp, by simp⟩, hu, rfl⟩
  · rintro d ds bg H' ⟨j, rs, xss, acc, st', hds, hj, hR, hs1, hsh, hacc, hB, hrun, hst⟩ K hK
    have hj2 : j < shapes.length - 1 := by
      rcases Nat.lt_or_ge j (shapes.length - 1) with h | h
      · exact h
      · rw [List.drop_eq_nil_of_le (by simpa using h)] at hds; cases hds
    rw [range_drop hj2] at hds
    simp only [List.map_cons, List.cons.injEq] at hds
    obtain ⟨rfl, rfl⟩ := hds
    obtain ⟨a, ha⟩ : ∃ a, shapes[j]? = some a := ⟨_, List.getElem?_eq_getElem (by lia)⟩
    obtain ⟨b, hb⟩ : ∃ b, shapes[j + 1]? = some b := ⟨_, List.getElem?_eq_getElem (by lia)⟩
    have hdrop1 := drop_at hb
    have hdrop := (drop_at ha).trans (congrArg (a :: ·) hdrop1)
    have hla : a.length < 900 := hz2 _ (List.mem_of_getElem? ha)
    have hlb : b.length < 900 := hz2 _ (List.mem_of_getElem? hb)
    rw [hdrop, unRun] at hrun
    cases hs : unStep xss bg a b with
    | none => rw [hs] at hrun; cases hrun
    | some p =>
    obtain ⟨rows', st0, bg'⟩ := p
    rw [hs] at hrun
    simp only [← hdrop1] at hrun
    rw [Option.map_eq_some_iff] at hrun
    obtain ⟨st1, hrun, rfl⟩ := hrun
    obtain ⟨R, hRR⟩ := unStep_cmp hs
    have hnd := List.nodup_cons.mp hR.nd
    have hrl := hR.rows.length
    refine SA.name rfl ?_
    refine SS.midK (α := Unit) ["shapes", "rows", "steps", "begun", "k", "begins"] (fun _ => [.lst (shapes.map shapeAV), .ref r, .ref sh, .int bg, .int (j : Nat), .bool (decide (a.sum < b.sum))]) (fun _ H2 => H2 = H') ?_ ?_
    · intro K hK
      walk_at "w"
      refine SE.item ?_
      walk_at "w"
      refine ⟨_, _, j, .inl rfl, rfl, by walk_at "lk", get_map ha, ?_⟩
      refine op_sum (.inl rfl) ?_
      refine SE.sum rfl rfl rfl ?_
      refine SE.item ?_
      walk_at "w"
      refine ⟨_, _, j + 1, .inl rfl, by simp, by walk_at "lk", get_map hb, ?_⟩
      refine op_sum (.inl rfl) ?_
      walk_at "w"
      exact hK _ _ ⟨(), by walk_at "sub", rfl⟩
    rintro _ H2 rfl
    refine SS.midK (α := Unit) ["shapes", "rows", "steps", "begun", "begins", "less", "more"] (fun _ => [.lst (shapes.map shapeAV), .ref r, .ref sh, .int bg, .bool (decide (a.sum < b.sum)), shapeAV (if a.sum < b.sum then a else b), shapeAV (if a.sum < b.sum then b else a)]) (fun _ H3 => H3 = H2) ?_ ?_
    · intro K hK
      walk_at "w"
      refine ⟨fun hlt => ?_, fun hge => ?_⟩
      · have hlt := of_decide_eq_true hlt
        rw [if_pos hlt, if_pos hlt] at hK
        walk_at "w"
        refine SE.item ?_
        walk_at "w"
        refine ⟨_, _, j, .inl rfl, rfl, by walk_at "lk", get_map ha, ?_⟩
        refine SEs.cons rfl (SE.item ?_)
        walk_at "w"
        refine ⟨_, _, j + 1, .inl rfl, by simp, by walk_at "lk", get_map hb, ?_⟩
        walk_at "w"
        refine SA.pair rfl rfl ?_
        exact hK _ _ ⟨(), by walk_at "sub", rfl⟩
      · have hge := of_decide_eq_false hge
        rw [if_neg hge, if_neg hge] at hK
        walk_at "w"
        refine SE.item ?_
        walk_at "w"
        refine ⟨_, _, j + 1, .inl rfl, by simp, by walk_at "lk", get_map hb, ?_⟩
        refine SEs.cons rfl (SE.item ?_)
        walk_at "w"
        refine ⟨_, _, j, .inl rfl, rfl, by walk_at "lk", get_map ha, ?_⟩
        walk_at "w"
        refine SA.pair rfl rfl ?_
        exact hK _ _ ⟨(), by walk_at "sub", rfl⟩
    rintro _ H3 rfl
    have hlle : (if a.sum < b.sum then a else b).length < 900 := by split <;> assumption
    have hlmo : (if a.sum < b.sum then b else a).length < 900 := by split <;> assumption
    have hRle := cmpR_le hRR
    generalize ele : (if a.sum < b.sum then a else b) = le at hRR hlle hRle
    generalize emo : (if a.sum < b.sum then b else a) = mo at hRR hlmo
    refine SS.cons ?_
    walk_at "v"
    refine SS.midK (α := Unit) ["shapes", "rows", "steps", "begun", "begins", "r"] (fun _ => [.lst (shapes.map shapeAV), .ref r, .ref sh, .int bg, .bool (decide (a.sum < b.sum)), .int (R : Nat)]) (fun _ H4 => H4 = H3) ?_ ?_
    · intro K hK
      refine S1.whileK (α := Nat) ["shapes", "rows", "steps", "begun", "begins", "less", "more", "r"] (fun m => [.lst (shapes.map shapeAV), .ref r, .ref sh, .int bg, .bool (decide (a.sum < b.sum)), shapeAV le, shapeAV mo, .int (m : Nat)])
        (fun k m H4 => A4 (H4 = H3) (m ≤ R) (k = R - m) (cmpR (le.drop m) (mo.drop m) = some (R - m))) ?_ R 0 (by walk_at "sub") ⟨rfl, Nat.zero_le _, rfl, hRR⟩
      rintro k m H4 ⟨rfl, h1, h2, h3⟩ K2 hK2
      walk_at "w"
      refine op_len (.inl rfl) (by rw [length_ints]; walk_at "lk") ?_
      rw [length_ints]
      walk_at "w"
      refine ⟨_, rfl, fun hlt => ?_, fun hge => ?_⟩
      · have hlt : m < le.length := by simpa using hlt
        obtain ⟨x, y, hx, hy, h4, h5⟩ := cmpR_drop h3 hlt h1
        walk_at "w"
        refine SE.item ?_
        walk_at "w"
        refine ⟨_, _, m, .inl rfl, rfl, by walk_at "lk", get_map hx, ?_⟩
        refine SE.item ?_
        walk_at "w"
        refine ⟨_, _, m, .inl rfl, rfl, by walk_at "lk", get_map hy, ?_⟩
        walk_at "w"
        refine ⟨_, rfl, fun e => ?_, fun e => ?_⟩
        · obtain ⟨h6, h7⟩ := h4 (eq_of_beq e)
          walk_at "w"
          refine ⟨fun _ => ?_, fun e => nomatch e⟩
          walk_at "w"
          exact hK2 _ _ ⟨R - (m + 1), m + 1, by lia, by walk_at "sub", rfl, h6, rfl, h7⟩
        · have h6 := h5 (by simpa using e)
          refine ⟨(fun e => nomatch e), fun _ => ?_⟩
          rw [h6] at hK
          exact hK _ _ ⟨(), by walk_at "sub", rfl⟩
      · have hge : le.length ≤ m := by simpa using hge
        refine ⟨(fun e => nomatch e), fun _ => ?_⟩
        have : R = m := by lia
        rw [this] at hK
        exact hK _ _ ⟨(), by walk_at "sub", rfl⟩
    rintro _ H4 rfl
    refine SS.cons ?_
    walk_at "v"
    refine ⟨fun hlt => ?_, fun hge => ?_⟩
    · have hlt := of_decide_eq_true hlt
      rw [if_pos hlt] at ele emo
      subst ele emo
      have hs2 : ∃ xs, (if R = xss.length then xss ++ [[]] else xss)[R]? = some xs ∧ rows' = (if R = xss.length then xss ++ [[]] else xss).set R (xs ++ [bg]) ∧ st0 = (true, bg) ∧ bg' = bg + 1 := by
        unfold unStep at hs
        rw [if_pos hlt, hRR] at hs
        simp only at hs
        cases hx : (if R = xss.length then xss ++ [[]] else xss)[R]? with
        | none => rw [hx] at hs; cases hs
        | some xs => rw [hx] at hs; cases hs; exact ⟨xs, rfl, rfl, rfl, rfl⟩
      obtain ⟨xs, hxs, rfl, rfl, rfl⟩ := hs2
      have hB1 : Bnd (j + 1) (if R = xss.length then xss ++ [[]] else xss) := by
        split
        · refine ⟨by simp; exact hB.1, fun ys hy => ?_⟩
          rcases List.mem_append.mp hy with hy | hy
          · exact Nat.le_succ_of_le (hB.2 ys hy)
          · rw [List.mem_singleton] at hy; subst hy; simp
        · exact hB.mono (Nat.le_succ _)
      have hxj : xs.length ≤ j := by
        have hm := List.mem_of_getElem? hxs
        split at hm
        · rcases List.mem_append.mp hm with hm | hm
          · exact hB.2 _ hm
          · rw [List.mem_singleton] at hm; subst hm; simp
        · exact hB.2 _ hm
      refine SS.midK (α := Unit) ["shapes", "rows", "steps", "begun", "r"] (fun _ => [.lst (shapes.map shapeAV), .ref r, .ref sh, .int bg, .int (R : Nat)])
        (fun _ H5 => Ex1 fun rs1 => A3 (RowsAt H5 r rs1 (if R = xss.length then xss ++ [[]] else xss)) (sh ∉ rs1) (H5 sh = some (.list (acc.map stepAV)))) ?_ ?_
      · intro K hK
        walk_at "w"
        refine op_len (.inr ⟨r, rfl, hR.list⟩) (by rw [List.length_map]; unfold lineOk; have := hB.1; lia) ?_
        rw [List.length_map, hrl]
        walk_at "w"
        refine ⟨_, rfl, fun e => ?_, fun e => ?_⟩
        · have e : R = xss.length := Int.ofNat_inj.mp (eq_of_beq e)
          rw [if_pos e] at hK
          walk_at "w"
          walk_at "m"
          walk_at "w"
          refine ⟨r, _, rfl, hR.list, SE.list_any ?_⟩
          walk_at "w"
          intro D hD
          have hDr : D ≠ r := fun e => by rw [e, hR.list] at hD; cases hD
          have hDs : D ≠ sh := fun e => by rw [e, hsh] at hD; cases hD
          have hDw : D ∉ rs := fun hm => by
            obtain ⟨ys, _, e⟩ := hR.rows.mem hm
            rw [e] at hD; cases hD
          refine ⟨_, by rw [up_ne _ _ hDr.symm]; exact hR.list, by rw [List.length_map]; unfold lineOk; have := hB.1; lia, ?_⟩
          walk_at "w"
          refine hK _ _ ⟨(), by walk_at "sub", rs ++ [D], ⟨by rw [up_self]; simp, ?_, ?_⟩, ?_, by rw [up_ne _ _ hne, up_ne _ _ hDs.symm]; exact hsh⟩
          · rw [← List.cons_append]
            refine List.nodup_append.mpr ⟨hR.nd, by simp, ?_⟩
            intro x hx y hy e
            rw [List.mem_singleton] at hy; subst hy; subst e
            rcases List.mem_cons.mp hx with e | hx
            · exact hDr e
            · exact hDw hx
          · refine RL.append (hR.rows.agree fun b hb => ?_) ⟨?_, trivial⟩
            · rw [up_ne _ _ (fun e => hnd.1 (by rw [← e]; exact hb)), up_ne _ _ (fun e => hDw (by rw [← e]; exact hb))]
            · rw [up_ne _ _ hDr, up_self]; rfl
          · intro hm
            rcases List.mem_append.mp hm with hm | hm
            · exact hs1 hm
            · rw [List.mem_singleton] at hm; exact hDs hm.symm
        · have e : ¬ R = xss.length := fun h => by rw [h] at e; simp at e
          rw [if_neg e] at hK
          walk_at "w"
          exact hK _ _ ⟨(), by walk_at "sub", rs, hR, hs1, hsh⟩
      rintro _ H5 ⟨rs1, hR1, hs2, hsh1⟩
      have hnd1 := List.nodup_cons.mp hR1.nd
      obtain ⟨w, hw, hw2⟩ := hR1.rows.get hxs
      have hwm := List.mem_of_getElem? hw
      have hwr : w ≠ r := fun e => hnd1.1 (e ▸ hwm)
      have hws : w ≠ sh := fun e => hs2 (e ▸ hwm)
      walk_at "w"
      walk_at "m"
      refine SE.item ?_
      walk_at "w"
      refine ⟨_, _, R, .inr ⟨r, rfl, hR1.list⟩, rfl, by walk_at "lk", get_map hw, w, _, rfl, hw2, ?_⟩
      walk_at "w"
      refine ⟨_, hw2, by rw [length_ints]; walk_at "lk", ?_⟩
      walk_at "w"
      walk_at "m"
      walk_at "w"
      refine ⟨sh, _, rfl, by rw [up_ne _ _ hws.symm]; exact hsh1, ?_⟩
      walk_at "w"
      refine ⟨_, by rw [up_ne _ _ hws.symm]; exact hsh1, by rw [List.length_map]; walk_at "lk", ?_⟩
      walk_at "w"
      refine hK _ _ ⟨bg + 1, by walk_at "sub", j + 1, rs1, _, acc ++ [(true, bg)], st1, rfl, hj2, ⟨?_, hR1.nd, ?_⟩, hs2, by rw [up_self]; simp [stepAV], by simp [hacc], hB1.set (by simp; lia), hrun, by rw [← hst]; simp⟩
      · rw [up_ne _ _ hne.symm, up_ne _ _ hwr.symm]; exact hR1.list
      · have h1 := RL.set (ys := xs ++ [bg]) hR1.rows hnd1.2 hw
        refine h1.agree fun c hc => ?_
        have hcs : c ≠ sh := fun e => hs2 (e ▸ hc)
        rw [up_ne _ _ hcs]
        simp [intsOf]
    · have hge := of_decide_eq_false hge
      rw [if_neg hge] at ele emo
      subst ele emo
      have hs2 : ∃ xs c, xss[R]? = some xs ∧ xs.getLast? = some c ∧ ∃ nw c', downL ((if xs.dropLast.isEmpty then (xss.set R xs.dropLast).dropLast else xss.set R xs.dropLast).take R).reverse c = some (nw, c') ∧
          rows' = nw.reverse ++ (if xs.dropLast.isEmpty then (xss.set R xs.dropLast).dropLast else xss.set R xs.dropLast).drop R ∧ st0 = (false, c') ∧ bg = bg' := by
        unfold unStep at hs
        rw [if_neg hge, hRR] at hs
        simp only at hs
        cases hx : xss[R]? with
        | none => rw [hx] at hs; cases hs
        | some xs =>
          rw [hx] at hs
          simp only at hs
          cases hc : xs.getLast? with
          | none => rw [hc] at hs; cases hs
          | some c =>
            rw [hc] at hs
            simp only at hs
            cases hd : downL ((if xs.dropLast.isEmpty then (xss.set R xs.dropLast).dropLast else xss.set R xs.dropLast).take R).reverse c with
            | none => rw [hd] at hs; cases hs
            | some p => rw [hd] at hs; cases hs; exact ⟨xs, c, rfl, hc, p.1, p.2, hd, rfl, rfl, rfl⟩
      obtain ⟨xs, c, hxs, hc, nw, c', hdn, rfl, rfl, rfl⟩ := hs2
      have hxj : xs.length ≤ j := hB.2 _ (List.mem_of_getElem? hxs)
      have hxd : xs = xs.dropLast ++ [c] := by
        rw [List.getLast?_eq_some_iff] at hc
        obtain ⟨ys, rfl⟩ := hc
        simp
      obtain ⟨w, hw, hw2⟩ := hR.rows.get hxs
      have hwm := List.mem_of_getElem? hw
      have hwr : w ≠ r := fun e => hnd.1 (e ▸ hwm)
      have hws : w ≠ sh := fun e => hs1 (e ▸ hwm)
      have hxl : xs.dropLast.length + 1 = xs.length := by have := congrArg List.length hxd; rw [List.length_append] at this; exact this.symm
      have hints : intsOf xs = intsOf xs.dropLast ++ [.int c] := (congrArg intsOf hxd).trans (by simp [intsOf])
      rw [hints] at hw2
      generalize xs.dropLast = ys at hxl hdn hw2 hints hs hrun
      walk_at "w"
      walk_at "m"
      refine SE.item ?_
      walk_at "w"
      refine ⟨_, _, R, .inr ⟨r, rfl, hR.list⟩, rfl, by unfold lineOk; have := hB.1; have := (List.getElem?_eq_some_iff.mp hxs).1; lia, get_map hw, w, _, _, rfl, hw2, by rw [length_ints]; walk_at "lk", ?_⟩
      refine SA.name rfl ?_
      have hset := RL.set (ys := ys) hR.rows hnd.2 hw
      have hB1 : Bnd j (xss.set R ys) := hB.set (by lia)
      refine SS.midK (α := Unit) ["shapes", "rows", "steps", "begun", "r", "call"] (fun _ => [.lst (shapes.map shapeAV), .ref r, .ref sh, .int bg, .int (R : Nat), .int c])
        (fun _ H5 => Ex1 fun rs1 => A3 (RowsAt H5 r rs1 (if ys.isEmpty then (xss.set R ys).dropLast else xss.set R ys)) (sh ∉ rs1) (H5 sh = some (.list (acc.map stepAV)))) ?_ ?_
      · intro K hK
        walk_at "v"
        refine SE.item ?_
        walk_at "w"
        refine ⟨_, _, R, .inr ⟨r, rfl, by rw [up_ne _ _ hwr.symm]; exact hR.list⟩, rfl, by unfold lineOk; have := hB.1; have := (List.getElem?_eq_some_iff.mp hxs).1; lia, get_map hw, ?_⟩
        refine SE.list ?_
        walk_at "w"
        refine SV2.eqD (.inr ⟨w, _, rfl, up_self .., plainL_ints ys, rfl⟩) (.inl ⟨rfl, rfl⟩) ((okD_ints ys).shaped (by decide)) rfl ?_
        rw [show pd (.lst []) = PyData.list [] from rfl, eqv_ints_nil]
        refine ⟨_, rfl, fun e => ?_, fun e => ?_⟩
        · rw [if_pos e] at hK
          have hrl2 : rs ≠ [] := fun e => by rw [e] at hwm; cases hwm
          have hrs : rs = rs.dropLast ++ [rs.getLast hrl2] := (List.dropLast_concat_getLast hrl2).symm
          have hmap : rs.map AV.ref = rs.dropLast.map AV.ref ++ [.ref (rs.getLast hrl2)] := (congrArg (List.map AV.ref) hrs).trans (by simp)
          walk_at "w"
          walk_at "m"
          walk_at "w"
          refine ⟨r, _, _, rfl, by rw [up_ne _ _ hwr.symm, hR.list, hmap], by rw [List.length_map, List.length_dropLast]; unfold lineOk; have := hB.1; lia, ?_⟩
          walk_at "w"
          refine hK _ _ ⟨(), by walk_at "sub", rs.dropLast, ⟨up_self .., ?_, ?_⟩, fun hm => hs1 (List.dropLast_subset _ hm), by rw [up_ne _ _ hne, up_ne _ _ hws.symm]; exact hsh⟩
          · exact List.nodup_cons.mpr ⟨fun hm => hnd.1 (List.dropLast_subset _ hm), (List.dropLast_sublist rs).nodup hnd.2⟩
          · refine hset.dropLast.agree fun b hb => ?_
            have hbr : b ≠ r := fun e => hnd.1 (by rw [← e]; exact List.dropLast_subset _ hb)
            rw [up_ne _ _ hbr]
        · rw [if_neg (by rw [e]; exact Bool.false_ne_true)] at hK
          walk_at "w"
          exact hK _ _ ⟨(), by walk_at "sub", rs, ⟨by rw [up_ne _ _ hwr.symm]; exact hR.list, hR.nd, hset⟩, hs1, by rw [up_ne _ _ hws.symm]; exact hsh⟩
      rintro _ H5 ⟨rs1, hR1, hs2, hsh1⟩
      have hB2 : Bnd j (if ys.isEmpty then (xss.set R ys).dropLast else xss.set R ys) := by split; exact hB1.dropLast; exact hB1
      generalize (if ys.isEmpty then (xss.set R ys).dropLast else xss.set R ys) = xs1 at hR1 hdn hB2 hs hrun
      have hnd1 := List.nodup_cons.mp hR1.nd
      have hl1 := hR1.rows.length
      have hb1 := hB2.1
      have hdisj : ∀ b ∈ rs1.take R, b ∉ rs1.drop R := fun b h1 h2 => by
        have := hnd1.2
        rw [← List.take_append_drop R rs1] at this
        exact (List.nodup_append.mp this).2.2 b h1 b h2 rfl
      have hrb : ∀ b ∈ rs1.take R, b ≠ r := fun b h1 e => hnd1.1 (by rw [← e]; exact List.take_subset _ _ h1)
      have hsb : ∀ b ∈ rs1.take R, b ≠ sh := fun b h1 e => hs2 (by rw [← e]; exact List.take_subset _ _ h1)
      refine SS.cons ?_
      refine S1.weak (σ' := argsOf ["shapes", "rows", "steps", "begun", "r", "call"] [.lst (shapes.map shapeAV), .ref r, .ref sh, .int bg, .int (R : Nat), .int c]) (H' := H5) (Sub.refl _) (Sub.refl _) ?_
      refine S1.for (SIt.reversed rfl rfl rfl (SE.cutTo ?_))
      walk_at "w"
      refine ⟨_, R, .inr ⟨r, rfl, hR1.list⟩, rfl, by rw [List.length_map]; walk_at "lk", _, rfl, ?_⟩
      rw [← List.map_take, ← List.map_reverse]
      refine ForW.invK (α := Int) ["shapes", "rows", "steps", "begun", "r", "call"] (fun c => [.lst (shapes.map shapeAV), .ref r, .ref sh, .int bg, .int (R : Nat), .int c])
        (fun ds c2 H6 => Ex5 fun dn rr xd xr xn => A8 ((rs1.take R).reverse = dn ++ rr) (ds = rr.map AV.ref) (RL H6 dn xd) (RL H6 rr xr) (downL xr c2 = some (xn, c')) (nw = xd ++ xn) ((∀ b m, H5 b = some m → b ∉ rs1.take R → H6 b = some m)) ((∀ xs ∈ xr, xs.length ≤ j))) ?_ ?_
        _ c _ ⟨[], _, [], _, nw, rfl, rfl, trivial, (hR1.rows.take R).reverse, hdn, rfl, fun b m e _ => e, fun xs hm => hB2.2 _ (List.take_subset _ _ (List.mem_reverse.mp hm))⟩
      · rintro d ds c2 H6 ⟨dn, rr, xd, xr, xn, hrv, hds, h1, h2, h3, h4, h5, h6⟩ K hK
        cases rr with
        | nil => cases hds
        | cons a rr =>
        cases xr with
        | nil => exact h2.elim
        | cons xs xr =>
        simp only [List.map_cons, List.cons.injEq] at hds
        obtain ⟨rfl, rfl⟩ := hds
        obtain ⟨ha, h2⟩ := h2
        have hxs := h6 xs (.head _)
        have hlen := insR_length xs c2
        obtain ⟨i1, i2⟩ := idx_ok c2 (insR_mem xs c2)
        have i3 := (List.getElem?_eq_some_iff.mp i1).1
        have hndr : (dn ++ a :: rr).Nodup := by
          rw [← hrv]
          exact (List.reverse_perm _).nodup_iff.mpr ((List.take_sublist R rs1).nodup hnd1.2)
        have hne1 : ∀ b ∈ dn, b ≠ a := fun b hb e => by
          subst e
          exact (List.nodup_append.mp hndr).2.2 b hb b (.head _) rfl
        have hne2 : ∀ b ∈ rr, b ≠ a := fun b hb e => by
          subst e
          exact (List.nodup_cons.mp (List.nodup_append.mp hndr).2.1).1 hb
        have hat : a ∈ rs1.take R := List.mem_reverse.mp (by rw [hrv]; simp)
        unfold downL at h3
        by_cases hz0 : idx c2 (insR xs c2) = 0
        · rw [if_pos hz0] at h3; cases h3
        rw [if_neg hz0, Option.map_eq_some_iff] at h3
        obtain ⟨⟨xn', c3⟩, h3, h7⟩ := h3
        cases h7
        walk_at "w"
        refine SE.callH FI.isFn rfl rfl ?_
        walk_at "w"
        refine insort_right_ok FB FI ha (by walk_at "lk") ?_
        walk_at "w"
        walk_at "m"
        walk_at "w"
        refine ⟨a, _, rfl, up_self .., ?_⟩
        walk_at "w"
        walk_at "m"
        walk_at "w"
        refine ⟨a, _, rfl, up_self .., ?_⟩
        walk_at "w"
        refine ⟨insR xs c2, c2, idx c2 (insR xs c2), rfl, up_self .., by walk_at "lk", i1, i2, ?_⟩
        walk_at "w"
        refine ⟨_, _, idx c2 (insR xs c2) - 1, by congr 1; lia, up_self .., by rw [length_ints]; walk_at "lk", getD_ints _ _ (by lia), ?_⟩
        walk_at "w"
        rw [ints_erase]
        refine hK _ _ ⟨(insR xs c2).getD (idx c2 (insR xs c2) - 1) 0, by walk_at "sub", dn ++ [a], rr, xd ++ [(insR xs c2).eraseIdx (idx c2 (insR xs c2) - 1)], xr, xn', by rw [hrv]; simp, rfl, ?_, ?_, h3, by simp [h4], fun b m e hb => ?_, fun ys hy => h6 ys (.tail _ hy)⟩
        · refine RL.append (h1.agree fun b hb => ?_) ⟨up_self .., trivial⟩
          rw [up_ne _ _ (hne1 b hb), up_ne _ _ (hne1 b hb)]
        · exact h2.agree fun b hb => by rw [up_ne _ _ (hne2 b hb), up_ne _ _ (hne2 b hb)]
        · have hba : b ≠ a := fun e => hb (by rw [e]; exact hat)
          rw [up_ne _ _ hba, up_ne _ _ hba]; exact h5 b m e hb
      · rintro c2 H6 ⟨dn, rr, xd, xr, xn, hrv, hds, h1, h2, h3, h4, h5, h6⟩
        have : rr = [] := by simpa using hds.symm
        subst this
        have : xr = [] := by cases xr with | nil => rfl | cons _ _ => exact h2.elim
        subst this
        unfold downL at h3
        cases h3
        rw [List.append_nil] at hrv h4
        subst h4
        have hsh6 := h5 sh _ hsh1 fun hm => hsb sh hm rfl
        have hr6 := h5 r _ hR1.list fun hm => hrb r hm rfl
        obtain ⟨hnwl, hnwb⟩ := downL_bnd hdn (k := j) fun xs hm => hB2.2 _ (List.take_subset _ _ (List.mem_reverse.mp hm))
        walk_at "w"
        walk_at "m"
        walk_at "w"
        refine ⟨sh, _, rfl, hsh6, ?_⟩
        walk_at "w"
        refine ⟨_, hsh6, by rw [List.length_map]; walk_at "lk", ?_⟩
        walk_at "w"
        refine hK _ _ ⟨bg, by walk_at "sub", j + 1, rs1, _, acc ++ [(false, c')], st1, rfl, hj2, ⟨?_, hR1.nd, ?_⟩, hs2, by rw [up_self]; simp [stepAV], by simp [hacc], ?_, hrun, by rw [← hst]; simp⟩
        · rw [up_ne _ _ hne.symm]; exact hr6
        · have h7 : RL H6 (rs1.take R) nw.reverse := by
            have := h1.reverse
            rwa [← hrv, List.reverse_reverse] at this
          have h8 : RL H6 (rs1.drop R) (xs1.drop R) := (hR1.rows.drop R).agree fun b hb => by
            obtain ⟨xs, _, e⟩ := (hR1.rows.drop R).mem hb
            rw [e]
            exact h5 b _ e fun hm => hdisj b hm hb
          have h9 := RL.append h7 h8
          rw [List.take_append_drop] at h9
          exact h9.agree fun b hb => up_ne _ _ (fun e => hs2 (by rw [← e]; exact hb))
        · refine ⟨?_, fun xs hm => ?_⟩
          · rw [List.length_append, List.length_reverse, hnwl, List.length_reverse, List.length_take, List.length_drop]; lia
          · rcases List.mem_append.mp hm with hm | hm
            · have := hnwb xs (List.mem_reverse.mp hm); lia
            · have := hB2.2 _ (List.drop_subset _ _ hm); lia
  · rintro bg H' ⟨j, rs, xss, acc, st', hds, hj, hR, hs1, hsh, hacc, hB, hrun, hst⟩
    have hj2 : j = shapes.length - 1 := by
      rcases Nat.lt_or_ge j (shapes.length - 1) with h | h
      · rw [range_drop h] at hds; cases hds
      · lia
    have hst2 : st' = [] := by
      have h1 : ∃ x, shapes.drop j = [x] := by
        refine ⟨shapes[j]'(by lia), ?_⟩
        rw [List.drop_eq_getElem_cons (by lia), List.drop_eq_nil_of_le (by lia)]
      obtain ⟨x, h1⟩ := h1
      rw [h1] at hrun
      simpa [unRun] using hrun.symm
    subst hst2
    rw [List.append_nil] at hst
    refine SS.cons (S1.ret (SE.leave ?_))
    walk_at "w"
    refine ⟨sh, _, rfl, hsh, ?_⟩
    rw [hst]
    exact q _

noncomputable def flL (b : Bool) : List (Bool × Int) → Nat → List (Int × Int) → List (Int × Int)
  | [], _, acc => acc
  | p :: ps, k, acc => flL b ps (k + 1) (if p.1 = b then dset acc p.2 (k : Int) else acc)
theorem flL_length (b : Bool) : ∀ (ps : List (Bool × Int)) (k : Nat) (acc : List (Int × Int)), (flL b ps k acc).length ≤ acc.length + ps.length
  | [], _, acc => by simp [flL]
  | p :: ps, k, acc => by
    have h := flL_length b ps (k + 1) (if p.1 = b then dset acc p.2 (k : Int) else acc)
    have h2 : (if p.1 = b then dset acc p.2 (k : Int) else acc).length ≤ acc.length + 1 := by split; exact dset_length ..; lia
    simp only [flL, List.length_cons] at *; lia
noncomputable def dg (d : List (Int × Int)) (k : Int) : Int := (dget d k).getD 0
noncomputable def okFL (f l : List (Int × Int)) : Bool := (List.range f.length).all fun (c : Nat) => (dget f c).isSome && (dget l c).isSome
noncomputable def endsL (f l : List (Int × Int)) (gap : Int) : List Int := ((List.range f.length).filter fun (c : Nat) => decide (dg f c < gap) && decide (gap ≤ dg l c)).map fun (c : Nat) => dg l c
noncomputable def pickL (cmp : Int → Int → Bool) (ends acc : List Int) (i : Nat) : List Int := ((List.range i).filter fun j => cmp (ends.getD j 0) (ends.getD i 0)).map fun j => acc.getD j 0
noncomputable def chainStep (cmp : Int → Int → Bool) (ends acc : List Int) (i : Nat) : List Int := acc ++ [1 + maxI (0 :: pickL cmp ends acc i)]
noncomputable def chainL (cmp : Int → Int → Bool) (ends : List Int) : List Int := (List.range ends.length).foldl (chainStep cmp ends) []
noncomputable def gtB (a b : Int) : Bool := decide (b < a)
noncomputable def ltB (a b : Int) : Bool := decide (a < b)
noncomputable def toldOf (f l : List (Int × Int)) (gap : Int) : Int × Int × Int := ((endsL f l gap).length, maxI (0 :: chainL gtB (endsL f l gap)), maxI (0 :: chainL ltB (endsL f l gap)))
noncomputable def toldAV (t : Int × Int × Int) : AV := .tup [.int t.1, .int t.2.1, .int t.2.2]
noncomputable def widestL (steps : List (Bool × Int)) : List (Int × Int × Int) := (List.range (steps.length + 1)).map fun (gap : Nat) => toldOf (flL true steps 0 []) (flL false steps 0 []) gap
theorem dget_dg {d : List (Int × Int)} {k : Int} (h : (dget d k).isSome = true) : dget d k = some (dg d k) := by
  unfold dg; obtain ⟨v, hv⟩ := Option.isSome_iff_exists.mp h; rw [hv]; rfl
theorem okFL_at {f l : List (Int × Int)} (h : okFL f l = true) {c : Nat} (hc : c < f.length) : dget f c = some (dg f c) ∧ dget l c = some (dg l c) := by
  have := List.all_eq_true.mp h c (by simpa using hc)
  rw [Bool.and_eq_true] at this
  exact ⟨dget_dg this.1, dget_dg this.2⟩
theorem map_range_drop {N j : Nat} (h : j < N) : ((List.range N).drop j).map (fun (i : Nat) => AV.int (i : Int)) = AV.int (j : Int) :: ((List.range N).drop (j + 1)).map (fun (i : Nat) => AV.int (i : Int)) := by
  rw [range_drop h]; rfl
theorem filter_drop {N j : Nat} (p : Nat → Bool) (f : Nat → Int) (h : j < N) : (((List.range N).drop j).filter p).map f = (if p j = true then [f j] else []) ++ (((List.range N).drop (j + 1)).filter p).map f := by
  rw [range_drop h, List.filter_cons]; split <;> simp

noncomputable abbrev fLW : Str := "_law_widest"
noncomputable abbrev FnLW (G : GC) : Prop := Fn G fLW ["steps"] [] 1 (scAt 25) (bodyAt 25)

/-- one place of a run over range: it is below the end, or there is none left -/
theorem range_next {N j : Nat} {d : AV} {ds : List AV} (h : d :: ds = ((List.range N).drop j).map fun (i : Nat) => AV.int (i : Int)) : j < N ∧ d = .int (j : Int) ∧ ds = ((List.range N).drop (j + 1)).map fun (i : Nat) => AV.int (i : Int) := by
  rcases Nat.lt_or_ge j N with hj | hj
  · rw [map_range_drop hj] at h
    simp only [List.cons.injEq] at h
    exact ⟨hj, h.1, h.2⟩
  · rw [List.drop_eq_nil_of_le (by simpa using hj)] at h; cases h
theorem range_end {N j : Nat} (h : [] = ((List.range N).drop j).map fun (i : Nat) => AV.int (i : Int)) : N ≤ j := by
  rcases Nat.lt_or_ge j N with hj | hj
  · rw [map_range_drop hj] at h; cases h
  · exact hj

theorem law_widest_ok {G : GC} {n : Nat} {steps : List (Bool × Int)} (F : FnLW G) (hz : steps.length < 900) (hok : okFL (flL true steps 0 []) (flL false steps 0 []) = true)
    {Q : AV → HM → Prop} (q : ∀ H', Q (.lst ((widestL steps).map toldAV)) H') : SC G (n + 1) fLW [.lst (steps.map stepAV)] noH Q := by
  have hFl := flL_length true steps 0 []
  simp only [List.length_nil, Nat.zero_add] at hFl
  refine SC.of_body F ?_
  walk_at "b"
  walk_at "w"
  refine SE.dict0 ?_
  intro f hf
  walk_at "w"
  refine SE.dict0 ?_
  intro l hl
  have hlf : l ≠ f := by rintro rfl; rw [up_self] at hl; cases hl
  walk_at "w"
  refine S1.weak (σ' := argsOf ["steps", "first", "last"] [.lst (steps.map stepAV), .ref f, .ref l]) (H' := up (up noH f (.dict [])) l (.dict [])) (by walk_at "sub") (Sub.refl _) ?_
  refine S1.for (SIt.range rfl rfl rfl ?_)
  walk_at "w"
  refine op_len (.inl rfl) (by rw [List.length_map]; walk_at "lk") ?_
  rw [List.length_map]
  refine ⟨_, rfl, by walk_at "lk", ?_⟩
  refine ForW.invK (α := Unit) ["steps", "first", "last"] (fun _ => [.lst (steps.map stepAV), .ref f, .ref l])
    (fun ds _ H' => Ex3 fun j fd ld => A8 (ds = ((List.range steps.length).drop j).map (fun (i : Nat) => AV.int (i : Int))) (H' f = some (.dict fd)) (H' l = some (.dict ld)) (fd.length ≤ j) (ld.length ≤ j) (j ≤ steps.length) (flL true (steps.drop j) j fd = flL true steps 0 []) (flL false (steps.drop j) j ld = flL false steps 0 [])) ?_ ?_
    _ () _ ⟨0, [], [], rfl, by rw [up_ne _ _ hlf.symm, up_self], up_self .., Nat.le_refl _, Nat.le_refl _, Nat.zero_le _, rfl, rfl⟩
  · rintro d ds _ H' ⟨j, fd, ld, hds, h1, h2, h3, h4, h5, h6, h7⟩ K hK
    obtain ⟨hj, rfl, rfl⟩ := range_next hds
    have hs : steps[j]? = some steps[j] := List.getElem?_eq_getElem hj
    rw [List.drop_eq_getElem_cons hj, flL] at h6 h7
    generalize steps[j] = p at hs h6 h7
    obtain ⟨b, c⟩ := p
    refine SA.name rfl ?_
    walk_at "w"
    refine SE.item ?_
    walk_at "w"
    refine ⟨_, _, j, .inl rfl, rfl, by walk_at "lk", get_map hs, ?_⟩
    refine SA.pair rfl rfl ?_
    walk_at "w"
    refine ⟨fun e => ?_, fun e => ?_⟩
    · have e : b = true := e
      subst e
      walk_at "w"
      refine SA.setD ?_
      walk_at "w"
      refine ⟨f, fd, _, _, rfl, h1, rfl, rfl, by walk_at "lk", ?_⟩
      walk_at "w"
      have := dset_length fd c j
      exact hK _ _ ⟨(), by walk_at "sub", j + 1, dset fd c j, ld, rfl, up_self .., by rw [up_ne _ _ hlf]; exact h2, by lia, by lia, hj, by simpa using h6, by simpa using h7⟩
    · have e : b = false := e
      subst e
      walk_at "w"
      refine SA.setD ?_
      walk_at "w"
      refine ⟨l, ld, _, _, rfl, h2, rfl, rfl, by walk_at "lk", ?_⟩
      walk_at "w"
      have := dset_length ld c j
      exact hK _ _ ⟨(), by walk_at "sub", j + 1, fd, dset ld c j, rfl, by rw [up_ne _ _ hlf.symm]; exact h1, up_self .., by lia, by lia, hj, by simpa using h6, by simpa using h7⟩
  rintro _ H' ⟨j, fd, ld, hds, h1, h2, h3, h4, h5, h6, h7⟩
  have hj := range_end hds
  rw [List.drop_eq_nil_of_le hj, flL] at h6 h7
  subst h6 h7
  generalize hfd : flL true steps 0 [] = fd at *
  generalize hld : flL false steps 0 [] = ld at *
  walk_at "w"
  refine SE.list_any ?_
  walk_at "w"
  intro t ht
  have htf : f ≠ t := fun e => by rw [← e, h1] at ht; cases ht
  have htl : l ≠ t := fun e => by rw [← e, h2] at ht; cases ht
  walk_at "w"
  refine S1.weak (σ' := argsOf ["steps", "first", "last", "told"] [.lst (steps.map stepAV), .ref f, .ref l, .ref t]) (H' := up H' t (.list [])) (by walk_at "sub") (Sub.refl _) ?_
  refine S1.for (SIt.range rfl rfl rfl ?_)
  walk_at "w"
  refine op_len (.inl rfl) (by rw [List.length_map]; walk_at "lk") ?_
  rw [List.length_map]
  walk_at "w"
  refine ⟨steps.length + 1, by simp, by walk_at "lk", ?_⟩
  refine ForW.invK (α := Unit) ["steps", "first", "last", "told"] (fun _ => [.lst (steps.map stepAV), .ref f, .ref l, .ref t])
    (fun ds _ H2 => Ex2 fun j acc => A7 (ds = ((List.range (steps.length + 1)).drop j).map (fun (i : Nat) => AV.int (i : Int))) (H2 f = some (.dict fd)) (H2 l = some (.dict ld)) (H2 t = some (.list (acc.map toldAV))) (acc.length = j) (j ≤ steps.length + 1) (acc ++ ((List.range (steps.length + 1)).drop j).map (fun (gap : Nat) => toldOf fd ld gap) = widestL steps)) ?_ ?_ _ () _ ?_
  · rintro d ds _ H2 ⟨j, acc, hds, k1, k2, k3, k4, k5, k6⟩ K hK
    obtain ⟨hj, rfl, rfl⟩ := range_next hds
    refine SA.name rfl ?_
    walk_at "w"
    refine S1.assignCompC ⟨_, _, rfl, rfl⟩ (SE.leave (SE.compL rfl (SIt.range rfl rfl rfl ?_)))
    walk_at "w"
    refine op_dlen (.inr ⟨f, rfl, k1⟩) (by walk_at "lk") ?_
    refine ⟨_, rfl, by walk_at "lk", ?_⟩
    refine CmpW.indK (fun ds ac H3 => A2 (H3 = H2) (Ex2 fun i done => A5 (ds = ((List.range fd.length).drop i).map (fun (i : Nat) => AV.int (i : Int))) (ac = intsOf done) (done ++ (((List.range fd.length).drop i).filter (fun (c : Nat) => decide (dg fd c < (j : Nat)) && decide ((j : Nat) ≤ dg ld c))).map (fun (c : Nat) => dg ld c) = endsL fd ld (j : Nat)) (done.length ≤ i) (i ≤ fd.length))) ?_ ?_
      _ [] _ ⟨rfl, 0, [], rfl, rfl, rfl, Nat.le_refl _, Nat.zero_le _⟩
    · rintro d ds ac H3 ⟨rfl, i, done, hds, rfl, d1, d2, d3⟩ K hK
      obtain ⟨hi, rfl, rfl⟩ := range_next hds
      rw [filter_drop _ _ hi] at d1
      obtain ⟨o1, o2⟩ := okFL_at hok hi
      refine ⟨_, rfl, STs.one (ST.chain rfl (SE.dictItem ?_))⟩
      walk_at "w"
      refine ⟨_, _, _, .inr ⟨f, rfl, k1⟩, rfl, o1, ?_⟩
      walk_at "w"
      refine ⟨_, rfl, fun e => ?_, fun e => ?_⟩
      · refine ⟨(fun e => nomatch e), fun _ => ⟨rfl, i + 1, done, rfl, rfl, ?_, by lia, hi⟩⟩
        rw [if_neg (by rw [e]; exact Bool.false_ne_true)] at d1
        simpa using d1
      · refine SE.dictItem ?_
        walk_at "w"
        refine ⟨_, _, _, .inr ⟨l, rfl, k2⟩, rfl, o2, ?_⟩
        walk_at "w"
        refine ⟨_, rfl, fun e2 => ?_, fun e2 => ?_⟩
        · rw [if_pos (by rw [e, e2]; rfl)] at d1
          refine SE.dictItem ?_
          walk_at "w"
          refine ⟨_, _, _, .inr ⟨l, rfl, k2⟩, rfl, o2, hK _ _ ⟨by rw [length_ints]; walk_at "lk", rfl, i + 1, done ++ [dg ld i], rfl, by simp [intsOf], ?_, by simp; lia, hi⟩⟩
          rw [← d1]; simp
        · refine ⟨rfl, i + 1, done, rfl, rfl, ?_, by lia, hi⟩
          rw [if_neg (by rw [e2, Bool.and_false]; exact Bool.false_ne_true)] at d1
          simpa using d1
    rintro ac H3 ⟨rfl, i, done, hds, rfl, d1, d2, d3⟩
    have hi := range_end hds
    rw [List.drop_eq_nil_of_le (by simpa using hi)] at d1
    have d1 : done = endsL fd ld (j : Nat) := by simpa using d1
    intro D hD
    refine ⟨D, _, rfl, up_self .., ?_⟩
    rw [del_up_none _ hD]
    have hdl : done.length < 900 := by lia
    have hto : toldOf fd ld (j : Nat) = (((done.length : Nat) : Int), maxI (0 :: chainL gtB done), maxI (0 :: chainL ltB done)) := by unfold toldOf; rw [← d1]
    clear d1 d2 d3 hi hds hD D
    generalize done = en at *
    walk_at "w"
    refine SE.list_any ?_
    walk_at "w"
    intro w hw
    have hwf : f ≠ w := fun e => by rw [← e, k1] at hw; cases hw
    have hwl : l ≠ w := fun e => by rw [← e, k2] at hw; cases hw
    have hwt : t ≠ w := fun e => by rw [← e, k3] at hw; cases hw
    walk_at "w"
    refine SE.list_any ?_
    walk_at "w"
    intro a ha
    have haw : w ≠ a := fun e => by rw [← e, up_self] at ha; cases ha
    have ha2 : H3 a = none := by rwa [up_ne _ _ haw.symm] at ha
    have haf : f ≠ a := fun e => by rw [← e, k1] at ha2; cases ha2
    have hal : l ≠ a := fun e => by rw [← e, k2] at ha2; cases ha2
    have hat : t ≠ a := fun e => by rw [← e, k3] at ha2; cases ha2
    walk_at "w"
    refine S1.weak (σ' := argsOf ["steps", "first", "last", "told", "ends", "within", "across"] [.lst (steps.map stepAV), .ref f, .ref l, .ref t, .lst (intsOf en), .ref w, .ref a]) (H' := up (up H3 w (.list [])) a (.list [])) (by walk_at "sub") (Sub.refl _) ?_
    refine S1.for (SIt.range rfl rfl rfl ?_)
    walk_at "w"
    refine op_len (.inl rfl) (by rw [length_ints]; walk_at "lk") ?_
    rw [length_ints]
    refine ⟨_, rfl, by walk_at "lk", ?_⟩
    refine ForW.invK (α := Unit) ["steps", "first", "last", "told", "ends", "within", "across"] (fun _ => [.lst (steps.map stepAV), .ref f, .ref l, .ref t, .lst (intsOf en), .ref w, .ref a])
      (fun ds _ H4 => Ex3 fun i wl al => A11 (ds = ((List.range en.length).drop i).map (fun (i : Nat) => AV.int (i : Int))) (H4 f = some (.dict fd)) (H4 l = some (.dict ld)) (H4 t = some (.list (acc.map toldAV))) (H4 w = some (.list (intsOf wl))) (H4 a = some (.list (intsOf al))) (wl.length = i) (al.length = i) (i ≤ en.length) (((List.range en.length).drop i).foldl (chainStep gtB en) wl = chainL gtB en) (((List.range en.length).drop i).foldl (chainStep ltB en) al = chainL ltB en)) ?_ ?_ _ () _ ⟨0, [], [], rfl, by rw [up_ne _ _ haf, up_ne _ _ hwf]; exact k1, by rw [up_ne _ _ hal, up_ne _ _ hwl]; exact k2, by rw [up_ne _ _ hat, up_ne _ _ hwt]; exact k3, by rw [up_ne _ _ haw, up_self]; rfl, up_self .., rfl, rfl, Nat.zero_le _, rfl, rfl⟩
    · rintro d ds _ H4 ⟨i, wl, al, hds, g1, g2, g3, g4, g5, g6, g7, g8, g9, g10⟩ K hK
      obtain ⟨hi, rfl, rfl⟩ := range_next hds
      rw [range_drop hi, List.foldl_cons] at g9 g10
      refine SA.name rfl ?_
      walk_at "w"
      walk_at "m"
      walk_at "w"
      refine ⟨w, _, rfl, g4, ?_⟩
      walk_at "w"
      refine SE.list ?_
      walk_at "w"
      refine SE.leave (SE.compL rfl (SIt.range rfl rfl rfl ?_))
      walk_at "w"
      refine ⟨_, rfl, by walk_at "lk", ?_⟩
      refine CmpW.indK (fun ds ac HH => A2 (HH = H4) (Ex2 fun m done => A5 (ds = ((List.range i).drop m).map (fun (i : Nat) => AV.int (i : Int))) (ac = intsOf done) (done ++ (((List.range i).drop m).filter (fun j => gtB (en.getD j 0) (en.getD i 0))).map (fun j => wl.getD j 0) = pickL gtB en wl i) (done.length ≤ m) (m ≤ i))) ?_ ?_
        _ [] _ ⟨rfl, 0, [], rfl, rfl, rfl, Nat.le_refl _, Nat.zero_le _⟩
      · rintro d ds ac HH ⟨rfl, m, done, hds, rfl, d1, d2, d3⟩ K hK
        obtain ⟨hm, rfl, rfl⟩ := range_next hds
        rw [filter_drop _ _ hm] at d1
        refine ⟨_, rfl, STs.one ?_⟩
        walk_at "w"
        refine SE.item ?_
        walk_at "w"
        refine ⟨_, _, m, .inl rfl, rfl, by walk_at "lk", getD_ints en m (by lia), ?_⟩
        refine SE.item ?_
        walk_at "w"
        refine ⟨_, _, i, .inl rfl, rfl, by walk_at "lk", getD_ints en i (by lia), ?_⟩
        walk_at "w"
        refine ⟨_, rfl, fun e => ?_, fun e => ?_⟩
        · rw [if_pos (show gtB (en.getD m 0) (en.getD i 0) = true from e)] at d1
          refine SE.item ?_
          walk_at "w"
          refine ⟨_, _, m, .inr ⟨w, rfl, g4⟩, rfl, by walk_at "lk", getD_ints wl m (by lia), hK _ _ ⟨by rw [length_ints]; walk_at "lk", rfl, m + 1, done ++ [wl.getD m 0], rfl, by simp [intsOf], ?_, by simp; lia, hm⟩⟩
          rw [← d1]; simp
        · rw [if_neg (by rw [show gtB (en.getD m 0) (en.getD i 0) = false from e]; exact Bool.false_ne_true)] at d1
          exact ⟨rfl, m + 1, done, rfl, rfl, by simpa using d1, by lia, hm⟩
      · rintro ac HH ⟨rfl, m, done, hds, rfl, d1, d2, d3⟩
        have hm := range_end hds
        rw [List.drop_eq_nil_of_le (by simpa using hm)] at d1
        have d1 : done = pickL gtB en wl i := by simpa using d1
        intro D hD
        refine ⟨D, _, rfl, up_self .., ?_⟩
        rw [del_up_none _ hD]
        refine op_add (.inl rfl) (.inl rfl) (by rw [length_ints]; simp; walk_at "lk") ?_
        refine op_max (ns := 0 :: done) (.inl rfl) (by simp) ?_
        walk_at "w"
        refine ⟨_, g4, by rw [length_ints]; walk_at "lk", ?_⟩
        rw [show intsOf wl ++ [AV.int (1 + maxI (0 :: done))] = intsOf (wl ++ [1 + maxI (0 :: pickL gtB en wl i)]) by rw [d1]; simp [intsOf]]
        walk_at "w"
        have g5' : up HH w (.list (intsOf (wl ++ [1 + maxI (0 :: pickL gtB en wl i)]))) a = some (.list (intsOf al)) := by rw [up_ne _ _ haw.symm]; exact g5
        generalize hHC : up HH w (.list (intsOf (wl ++ [1 + maxI (0 :: pickL gtB en wl i)]))) = HC at g5' ⊢  
        walk_at "m"
        walk_at "w"
        refine ⟨a, _, rfl, g5', ?_⟩
        walk_at "w"
        refine SE.list ?_
        walk_at "w"
        refine SE.leave (SE.compL rfl (SIt.range rfl rfl rfl ?_))
        walk_at "w"
        refine ⟨_, rfl, by walk_at "lk", ?_⟩
        refine CmpW.indK (fun ds ac HH => A2 (HH = HC) (Ex2 fun m done => A5 (ds = ((List.range i).drop m).map (fun (i : Nat) => AV.int (i : Int))) (ac = intsOf done) (done ++ (((List.range i).drop m).filter (fun j => ltB (en.getD j 0) (en.getD i 0))).map (fun j => al.getD j 0) = pickL ltB en al i) (done.length ≤ m) (m ≤ i))) ?_ ?_
          _ [] _ ⟨rfl, 0, [], rfl, rfl, rfl, Nat.le_refl _, Nat.zero_le _⟩
        · rintro d ds ac HH ⟨rfl, m, done, hds, rfl, d1, d2, d3⟩ K hK
          obtain ⟨hm, rfl, rfl⟩ := range_next hds
          rw [filter_drop _ _ hm] at d1
          refine ⟨_, rfl, STs.one ?_⟩
          walk_at "w"
          refine SE.item ?_
          walk_at "w"
          refine ⟨_, _, m, .inl rfl, rfl, by walk_at "lk", getD_ints en m (by lia), ?_⟩
          refine SE.item ?_
          walk_at "w"
          refine ⟨_, _, i, .inl rfl, rfl, by walk_at "lk", getD_ints en i (by lia), ?_⟩
          walk_at "w"
          refine ⟨_, rfl, fun e => ?_, fun e => ?_⟩
          · rw [if_pos (show ltB (en.getD m 0) (en.getD i 0) = true from e)] at d1
            refine SE.item ?_
            walk_at "w"
            refine ⟨_, _, m, .inr ⟨a, rfl, g5'⟩, rfl, by walk_at "lk", getD_ints al m (by lia), hK _ _ ⟨by rw [length_ints]; walk_at "lk", rfl, m + 1, done ++ [al.getD m 0], rfl, by simp [intsOf], ?_, by simp; lia, hm⟩⟩
            rw [← d1]; simp
          · rw [if_neg (by rw [show ltB (en.getD m 0) (en.getD i 0) = false from e]; exact Bool.false_ne_true)] at d1
            exact ⟨rfl, m + 1, done, rfl, rfl, by simpa using d1, by lia, hm⟩
        · rintro ac HH ⟨rfl, m, done, hds, rfl, d1, d2, d3⟩
          have hm := range_end hds
          rw [List.drop_eq_nil_of_le (by simpa using hm)] at d1
          have d1 : done = pickL ltB en al i := by simpa using d1
          intro D hD
          refine ⟨D, _, rfl, up_self .., ?_⟩
          rw [del_up_none _ hD]
          refine op_add (.inl rfl) (.inl rfl) (by rw [length_ints]; simp; walk_at "lk") ?_
          refine op_max (ns := 0 :: done) (.inl rfl) (by simp) ?_
          walk_at "w"
          refine ⟨_, g5', by rw [length_ints]; walk_at "lk", ?_⟩
          rw [show intsOf al ++ [AV.int (1 + maxI (0 :: done))] = intsOf (al ++ [1 + maxI (0 :: pickL ltB en al i)]) by rw [d1]; simp [intsOf]]
          walk_at "w"
          subst hHC
          refine hK _ _ ⟨(), by walk_at "sub", i + 1, chainStep gtB en wl i, chainStep ltB en al i, rfl, ?_, ?_, ?_, ?_, up_self .., by unfold chainStep; simp [g6], by unfold chainStep; simp [g7], hi, g9, g10⟩
          · rw [up_ne _ _ haf, up_ne _ _ hwf]; exact g1
          · rw [up_ne _ _ hal, up_ne _ _ hwl]; exact g2
          · rw [up_ne _ _ hat, up_ne _ _ hwt]; exact g3
          · rw [up_ne _ _ haw, up_self]; rfl
    rintro _ H4 ⟨i, wl, al, hds, g1, g2, g3, g4, g5, g6, g7, g8, g9, g10⟩
    have hi := range_end hds
    rw [List.drop_eq_nil_of_le (by simpa using hi)] at g9 g10
    have g9 : wl = chainL gtB en := g9
    have g10 : al = chainL ltB en := g10
    walk_at "w"
    walk_at "m"
    walk_at "w"
    refine ⟨t, _, rfl, g3, ?_⟩
    walk_at "w"
    refine op_len (.inl rfl) (by rw [length_ints]; walk_at "lk") ?_
    rw [length_ints]
    walk_at "w"
    refine SE.list ?_
    walk_at "w"
    refine op_add (.inl rfl) (.inr ⟨w, rfl, g4⟩) (by rw [length_ints]; simp; walk_at "lk") ?_
    refine op_max (ns := 0 :: wl) (.inl rfl) (by simp) ?_
    walk_at "w"
    refine SE.list ?_
    walk_at "w"
    refine op_add (.inl rfl) (.inr ⟨a, rfl, g5⟩) (by rw [length_ints]; simp; walk_at "lk") ?_
    refine op_max (ns := 0 :: al) (.inl rfl) (by simp) ?_
    walk_at "w"
    refine ⟨_, g3, by rw [List.length_map]; walk_at "lk", ?_⟩
    walk_at "w"
    refine hK _ _ ⟨(), by walk_at "sub", j + 1, acc ++ [toldOf fd ld (j : Nat)], rfl, ?_, ?_, ?_, by simp [k4], hj, ?_⟩
    · rw [up_ne _ _ htf]; exact g1
    · rw [up_ne _ _ htl]; exact g2
    · rw [up_self, hto, ← g9, ← g10]; simp [toldAV]
    · rw [← k6, range_drop hj]; simp
  · rintro _ H2 ⟨j, acc, hds, k1, k2, k3, k4, k5, k6⟩
    have hj := range_end hds
    rw [List.drop_eq_nil_of_le (by simpa using hj), List.map_nil, List.append_nil] at k6
    refine SS.cons (S1.ret (SE.leave ?_))
    walk_at "w"
    refine ⟨t, _, rfl, k3, ?_⟩
    rw [k6]
    exact q _
  · refine ⟨0, [], rfl, by rw [up_ne _ _ htf]; exact h1, by rw [up_ne _ _ htl]; exact h2, up_self .., rfl, Nat.zero_le _, ?_⟩
    unfold widestL; rw [hfd, hld]; rfl

noncomputable def S (l : List Nat) : Str := ⟨l.toArray⟩
theorem S_len (l : List Nat) : (S l).length = l.length := by simp [S, Str.length]
theorem S_app (l m : List Nat) : S l ++ S m = S (l ++ m) := by
  show Str.append (S l) (S m) = _
  simp [S, Str.append]
theorem S_get (l : List Nat) (i : Nat) : (S l).cps[i]? = l[i]? := by simp [S]
theorem S_eq (l m : List Nat) : (S l == S m) = decide (l = m) := by
  by_cases h : l = m
  · subst h; simp
  · have : S l ≠ S m := fun e => h (by simpa [S] using e)
    simp [h, this]

noncomputable def p257 : List Nat → List Nat
  | [] => []
  | [c] => if c = 34 then [] else [c]
  | c :: d :: r => if c = 34 then (if d = 34 then 34 :: p257 r else []) else c :: p257 (d :: r)

noncomputable abbrev fP2 : Str := "parse257"
noncomputable abbrev FnP2 (G : GC) : Prop := Fn G fP2 ["resp"] [] 1 (scAt 12) (bodyAt 12)

theorem slice_to (l : List Nat) (k : Nat) (h : k ≤ l.length) : StrLaws.sliceText (S l) none (some (k : Int)) = S (l.take k) := by
  rw [StrLaws.sliceText_to ⟨by lia, by simp [S]; lia⟩]
  simp [S]
theorem slice_mid (l : List Nat) (a b : Nat) (h : a ≤ b) (h2 : b ≤ l.length) : StrLaws.sliceText (S l) (some (a : Int)) (some (b : Int)) = S ((l.drop a).take (b - a)) := by
  rw [StrLaws.sliceText_nat _ h (by rw [S_len]; exact h2)]
  simp [S]
theorem slice_from (l : List Nat) (a : Nat) (h : a ≤ l.length) : StrLaws.sliceText (S l) (some (a : Int)) none = S (l.drop a) := by
  rw [StrLaws.sliceText_from ⟨by lia, by simp [S]; lia⟩]
  have e : (((S l).cps.toList.length : Int) - (a : Int)).toNat = l.length - a := by simp [S] <;> lia
  rw [e]
  simp [S]
  exact List.take_of_length_le (by simp)

theorem parse257_ok {G : GC} {n : Nat} {cs : List Nat} (F : FnP2 G) (hz : cs.length < 10000) {Q : AV → HM → Prop} (q : ∀ H', Q (.str (S (p257 cs))) H') : SC G (n + 1) fP2 [.str (S (50 :: 53 :: 55 :: 32 :: 34 :: cs))] noH Q := by
  refine SC.of_body F ?_
  generalize hr : (50 :: 53 :: 55 :: 32 :: 34 :: cs) = rs
  have hlen : rs.length = cs.length + 5 := by rw [← hr]; rfl
  have e1 : StrLaws.sliceText (S rs) none (some ((3 : Nat) : Int)) = S [50, 53, 55] := by rw [slice_to _ _ (by lia), ← hr]; rfl
  have e2 : StrLaws.sliceText (S rs) (some ((3 : Nat) : Int)) (some ((5 : Nat) : Int)) = S [32, 34] := by rw [slice_mid _ _ _ (by lia) (by lia), ← hr]; rfl
  have hget : ∀ i, 5 ≤ i → rs[i]? = cs[i - 5]? := fun i hi => by
    rw [← hr]
    obtain ⟨j, rfl⟩ : ∃ j, i = j + 5 := ⟨i - 5, by lia⟩
    simp
  walk_at "b"
  walk_at "w"
  refine SE.strCut ?_
  walk_at "w"
  refine SEo.none (SEo.some ?_)
  walk_at "w"
  refine ⟨_, rfl, _, rfl, by rw [e1]; unfold lineOk; decide, ?_⟩
  rw [e1]
  walk_at "w"
  refine SV2.neS ?_
  refine ⟨_, rfl, (fun h => absurd h (by decide)), fun _ => ?_⟩
  walk_at "w"
  refine SE.strCut ?_
  walk_at "w"
  refine SEo.some ?_
  walk_at "w"
  refine ⟨_, rfl, SEo.some ?_⟩
  walk_at "w"
  refine ⟨_, rfl, _, rfl, by rw [e2]; unfold lineOk; decide, ?_⟩
  rw [e2]
  walk_at "w"
  refine SV2.neS ?_
  refine ⟨_, rfl, (fun h => absurd h (by decide)), fun _ => ?_⟩
  walk_at "w"
  refine op_strLen (by rw [S_len]; walk_at "lk") ?_
  rw [S_len]
  refine SA.name rfl ?_
  refine SS.midK (α := Unit) ["dirname"] (fun _ => [.str (S (p257 cs))]) (fun _ _ => True) ?_ ?_
  · intro K0 hK0
    refine S1.whileKB (α := Nat × List Nat) ["resp", "dirname", "i", "n"] (fun p => [.str (S rs), .str (S p.2), .int (p.1 : Nat), .int (rs.length : Nat)])
      (fun k p H' => A5 (5 ≤ p.1) (p.1 ≤ rs.length) (k = rs.length - p.1) (p257 cs = p.2 ++ p257 (cs.drop (p.1 - 5))) (p.2.length ≤ p.1)) ?_ (rs.length - 5) (5, []) (by walk_at "sub") ⟨Nat.le_refl _, by lia, rfl, by simp, by simp⟩
    rintro k ⟨i, done⟩ H' ⟨h1, h2, h3, h4, h5⟩ K hK hB
    dsimp only at h1 h2 h3 h4 h5 ⊢
    walk_at "w"
    refine ⟨_, rfl, fun hlt => ?_, fun hge => ?_⟩
    · have hlt : i < rs.length := by simpa using hlt
      have hi : i - 5 < cs.length := by lia
      have hc : rs[i]? = some cs[i - 5] := by rw [hget i h1]; exact List.getElem?_eq_getElem hi
      rw [List.drop_eq_getElem_cons hi] at h4
      generalize cs[i - 5] = c at hc h4
      walk_at "w"
      refine SE.strItem ?_
      walk_at "w"
      refine ⟨_, i, c, rfl, rfl, by rw [S_len]; walk_at "lk", by rw [S_get]; exact hc, ?_⟩
      walk_at "w"
      refine SV2.eqS ?_
      refine ⟨_, rfl, fun hq => ?_, fun hq => ?_⟩
      · have hc34 : c = 34 := by
          have : (S [c] == S [34]) = true := hq
          rw [S_eq] at this
          simpa using this
        subst hc34
        walk_at "w"
        refine ⟨_, rfl, fun hn => ?_, fun hn => ?_⟩
        · have hn : rs.length ≤ i + 1 := by have := of_decide_eq_true hn; lia
          have hd : cs.drop (i - 5 + 1) = [] := List.drop_eq_nil_of_le (by lia)
          rw [hd] at h4
          refine ⟨fun _ => ?_, fun e => nomatch e⟩
          walk_at "w"
          rw [show p257 [34] = [] from rfl, List.append_nil] at h4
          rw [h4] at hK0
          exact hB _ _ (hK0 _ _ ⟨(), by walk_at "sub", trivial⟩)
        · have hn : i + 1 < rs.length := by have := of_decide_eq_false hn; lia
          have hi2 : i - 5 + 1 < cs.length := by lia
          have hc2 : rs[i + 1]? = some cs[i - 5 + 1] := by rw [hget _ (by lia)]; rw [show i + 1 - 5 = i - 5 + 1 by lia]; exact List.getElem?_eq_getElem hi2
          rw [List.drop_eq_getElem_cons hi2] at h4
          generalize cs[i - 5 + 1] = d at hc2 h4
          walk_at "w"
          refine SE.strItem ?_
          walk_at "w"
          refine ⟨_, i + 1, d, rfl, by simp, by rw [S_len]; walk_at "lk", by rw [S_get]; exact hc2, ?_⟩
          walk_at "w"
          refine SV2.neS ?_
          refine ⟨_, rfl, fun e => ?_, fun e => ?_⟩
          · have hd : d ≠ 34 := fun e2 => by subst e2; exact absurd e (by decide)
            rw [p257, if_pos rfl, if_neg hd, List.append_nil] at h4
            refine ⟨fun _ => ?_, fun e => nomatch e⟩
            walk_at "w"
            rw [h4] at hK0
            exact hB _ _ (hK0 _ _ ⟨(), by walk_at "sub", trivial⟩)
          · have hd : d = 34 := by
              have : (S [d] != S [34]) = false := e
              rw [bne, S_eq] at this
              simpa using this
            subst hd
            rw [p257, if_pos rfl, if_pos rfl] at h4
            walk_at "w"
            refine ⟨(fun e => nomatch e), fun _ => ?_⟩
            walk_at "w"
            refine SV2.addS (by rw [S_len]; show lineOk (done.length + 1); walk_at "lk") ?_
            rw [show (S done ++ ({ cps := #[34] } : Str)) = S (done ++ [34]) from S_app done [34]]
            walk_at "w"
            refine hK _ _ ⟨rs.length - (i + 2), (i + 2, done ++ [34]), by lia, by walk_at "sub", by show 5 ≤ i + 2; lia, by show i + 2 ≤ _; lia, rfl, ?_, ?_⟩
            · show p257 cs = (done ++ [34]) ++ p257 (cs.drop (i + 2 - 5))
              rw [h4, show i + 2 - 5 = i - 5 + 1 + 1 by lia]; simp
            · show (done ++ [34]).length ≤ i + 2
              simp; lia
      · have hc34 : c ≠ 34 := fun e2 => by subst e2; exact absurd hq (by decide)
        have h6 : p257 (c :: cs.drop (i - 5 + 1)) = c :: p257 (cs.drop (i - 5 + 1)) := by
          cases cs.drop (i - 5 + 1) with
          | nil => simp [p257, hc34]
          | cons d r => rw [p257, if_neg hc34]
        rw [h6] at h4
        walk_at "w"
        refine SV2.addS (by rw [S_len]; show lineOk (done.length + 1); walk_at "lk") ?_
        rw [show (S done ++ ({ cps := #[c] } : Str)) = S (done ++ [c]) from S_app done [c]]
        walk_at "w"
        refine hK _ _ ⟨rs.length - (i + 1), (i + 1, done ++ [c]), by lia, by walk_at "sub", by show 5 ≤ i + 1; lia, by show i + 1 ≤ _; lia, rfl, ?_, ?_⟩
        · show p257 cs = (done ++ [c]) ++ p257 (cs.drop (i + 1 - 5))
          rw [h4, show i + 1 - 5 = i - 5 + 1 by lia]; simp
        · show (done ++ [c]).length ≤ i + 1
          simp; lia
    · have hge : rs.length ≤ i := by simpa using hge
      rw [List.drop_eq_nil_of_le (by lia), p257, List.append_nil] at h4
      rw [h4] at hK0
      exact hK0 _ _ ⟨(), by walk_at "sub", trivial⟩
  · rintro _ H' _
    walk_at "w"
    exact q _

noncomputable def dec (k : Nat) : Str := Str.ofString (toString (k : Int))
noncomputable def lawText (path : Str) (k : Nat) (name : Str) : Str :=
  if (path != S [126] || decide (k ≠ 0)) = true then path ++ S [58] ++ dec k ++ S [40] ++ name ++ S [41] else if (name == S [60, 102, 62]) = true then S [123, 102, 125] else name
noncomputable abbrev fLX : Str := "_law_text"
noncomputable abbrev FnLX (G : GC) : Prop := Fn G fLX ["path", "place", "name"] [] 3 (scAt 19) (bodyAt 19)
theorem law_text_ok {G : GC} {n k : Nat} {path name : Str} (F : FnLX G) (hk : k < 10) (hp : path.length < 1000) (hn : name.length < 1000) {Q : AV → HM → Prop} (q : ∀ H', Q (.str (lawText path k name)) H') : SC G (n + 1) fLX [.str path, .int (k : Nat), .str name] noH Q := by
  have hd : (dec k).length < 1000 := by
    have h9 : ∀ k < 10, (dec k).length < 1000 := by decide +kernel
    exact h9 k hk
  have la : ∀ a b : Str, (a ++ b).length = a.length + b.length := Str.length_append
  have l1 : ∀ c, (S [c]).length = 1 := fun c => S_len _
  have c1 : ({ cps := #[58] } : Str).length = 1 := rfl
  have c2 : ({ cps := #[40] } : Str).length = 1 := rfl
  have c3 : ({ cps := #[41] } : Str).length = 1 := rfl
  refine SC.of_body F ?_
  walk_at "b"
  refine SS.cons (S1.if (ST.mono (Q := fun b H1 => b = (path != S [126] || decide (k ≠ 0)) ∧ H1 = noH) ?_ ?_))
  · walk_at "w"
    refine SV2.neS ?_
    refine ⟨_, rfl, fun h1 => ?_, fun h1 => ?_⟩
    · have h1 : (path != S [126]) = true := h1
      exact ⟨by rw [h1]; rfl, rfl⟩
    · have h1 : (path != S [126]) = false := h1
      walk_at "w"
      refine ⟨_, rfl, fun h2 => ?_, fun h2 => ?_⟩
      · have h2 : k ≠ 0 := by simpa using h2
        exact ⟨by rw [h1, decide_eq_true h2]; rfl, rfl⟩
      · have h2 : ¬ k ≠ 0 := by simpa using h2
        walk_at "w"
        exact ⟨by rw [h1, decide_eq_false h2]; rfl, rfl⟩
  · rintro b H1 ⟨rfl, rfl⟩
    unfold lawText at q
    refine ⟨fun hc => ?_, fun hc => ?_⟩
    · rw [if_pos hc] at q
      walk_at "w"
      refine SV2.addS (by simp only [c1]; walk_at "lk") ?_
      refine SE.strInt rfl rfl rfl ?_
      walk_at "w"
      refine ⟨_, rfl, by lia, ?_⟩
      have hd2 : (Str.ofString (toString (k : Int))).length < 1000 := hd
      refine SV2.addS (by simp only [la, c1]; walk_at "lk") ?_
      walk_at "w"
      refine SV2.addS (by simp only [la, c1, c2]; walk_at "lk") ?_
      walk_at "w"
      refine SV2.addS (by simp only [la, c1, c2]; walk_at "lk") ?_
      walk_at "w"
      refine SV2.addS (by simp only [la, c1, c2, c3]; walk_at "lk") ?_
      exact q _
    · rw [if_neg (by rw [hc]; exact Bool.false_ne_true)] at q
      walk_at "w"
      refine SV2.eqS ?_
      refine ⟨_, rfl, fun he => ?_, fun he => ?_⟩
      · have he : (name == S [60, 102, 62]) = true := he
        rw [if_pos he] at q
        walk_at "w"
        exact q _
      · have he : (name == S [60, 102, 62]) = false := he
        rw [if_neg (by rw [he]; exact Bool.false_ne_true)] at q
        walk_at "w"
        exact q _

noncomputable def stdS (path : Str) (k : Nat) (name : Str) : Str :=
  if (path == S [126] && decide (k = 0)) = true then
    (if (hasHead name (S [60]) && hasTail name (S [62])) = true then Str.ofString "{" ++ StrLaws.sliceText name (some 1) (some (-1)) ++ Str.ofString "}" else name)
  else path ++ Str.ofString ":" ++ Str.ofString (toString (k : Int)) ++ Str.ofString "(" ++ name ++ Str.ofString ")"
noncomputable abbrev fSS : Str := "func_std_string"
noncomputable abbrev FnSS (G : GC) : Prop := Fn G fSS ["func_name"] [] 1 (scAt 14) (bodyAt 14)

theorem func_std_ok {G : GC} {n k : Nat} {path name : Str} (F : FnSS G) (hk : k < 10) (hp : path.length < 1000) (hn : name.length < 1000) (hn2 : (StrLaws.sliceText name (some 1) (some (-1))).length < 1000) (hok : PyData.canLay0 (.str path) = true)
    {Q : AV → HM → Prop} (q : ∀ H', Q (.str (stdS path k name)) H') : SCp G (n + 1) fSS [.tup [.str path, .int (k : Nat), .str name]] noH Q := by
  refine SC.of_bodyP F ?_ (by decide) rfl rfl ⟨by decide, by simp⟩ rfl rfl rfl
  walk_at "b"
  walk_at "w"
  refine SE.tupTo2 ?_
  walk_at "w"
  refine ⟨_, _, _, rfl, rfl, ?_⟩
  walk_at "w"
  have ok1 : okD 1 (pd (.tup [.str path, .int (k : Nat)])) := okD.tuple fun d hd => by
    rcases List.mem_cons.mp hd with rfl | hd
    · exact ⟨hok, Nat.le_refl _⟩
    · rcases List.mem_cons.mp hd with rfl | hd
      · exact okD.int _
      · cases hd
  refine SV2.eqD (.inl ⟨rfl, rfl⟩) (.inl ⟨rfl, rfl⟩) (ok1.shaped (by decide)) (by decide +kernel) ?_
  refine ⟨_, rfl, fun h => ?_, fun h => ?_⟩
  · have h1 : (path == S [126] && decide (k = 0)) = true := by
      have h' : (path == S [126] && ((k : Int) == 0 && true)) = true := h
      rw [Bool.and_true] at h'
      rw [Bool.and_eq_true] at h' ⊢
      refine ⟨h'.1, ?_⟩
      have := h'.2
      simp at this ⊢; exact this
    unfold stdS at q
    rw [if_pos h1] at q
    walk_at "w"
    refine SE.tupItem ?_
    walk_at "w"
    refine ⟨_, _, 2, rfl, rfl, by unfold lineOk; simp, rfl, ?_⟩
    walk_at "w"
    refine ST.val (fun _ _ => rfl) (SE.heads rfl (fun _ => rfl) rfl rfl ?_)
    walk_at "w"
    refine ⟨_, rfl, ?_⟩
    walk_at "w"
    refine ⟨_, rfl, _, rfl, fun h2 => ?_, fun h2 => ?_⟩
    · have h2 : hasHead name (S [60]) = true := h2
      walk_at "w"
      refine ST.val (fun _ _ => rfl) (SE.tails rfl (fun _ => rfl) rfl rfl ?_)
      walk_at "w"
      refine ⟨_, rfl, ?_⟩
      walk_at "w"
      refine ⟨_, rfl, _, rfl, fun h3 => ?_, fun h3 => ?_⟩
      · have h3 : hasTail name (S [62]) = true := h3
        rw [if_pos (by rw [h2, h3]; rfl)] at q
        walk_at "w"
        refine ⟨fun _ => ?_, fun e => nomatch e⟩
        walk_at "w"
        refine SE.strCut ?_
        walk_at "w"
        refine SEo.some ?_
        walk_at "w"
        refine ⟨_, rfl, SEo.some (SE.neg ?_)⟩
        walk_at "w"
        refine ⟨_, rfl, _, rfl, _, rfl, by walk_at "lk", ?_⟩
        refine SV2.fmt1 (by lia) ?_
        exact q _
      · have h3 : hasTail name (S [62]) = false := h3
        rw [if_neg (by rw [h2, h3]; exact Bool.false_ne_true)] at q
        refine ⟨(fun e => nomatch e), fun _ => ?_⟩
        walk_at "w"
        exact q _
    · have h2 : hasHead name (S [60]) = false := h2
      rw [if_neg (by rw [h2, Bool.false_and]; exact Bool.false_ne_true)] at q
      refine ⟨(fun e => nomatch e), fun _ => ?_⟩
      walk_at "w"
      exact q _
  · have h1 : ¬ (path == S [126] && decide (k = 0)) = true := by
      have h' : (path == S [126] && ((k : Int) == 0 && true)) = false := h
      rw [Bool.and_true] at h'
      intro h2
      rw [Bool.and_eq_true] at h2
      rw [h2.1, Bool.true_and] at h'
      have := of_decide_eq_true h2.2
      subst this
      exact absurd h' (by decide)
    unfold stdS at q
    rw [if_neg h1] at q
    walk_at "w"
    refine SV2.fmt3 (by lia) (by lia) (by lia) ?_
    exact q _

noncomputable abbrev fPD : Str := "_paren_depth"
noncomputable abbrev FnPD (G : GC) : Prop := Fn G fPD ["data", "depth"] [] 2 (scAt 3) (bodyAt 3)
structure PatOk (G : GC) : Prop where
  is : ∃ a, G.mg ("_quoted" : Str) = some (.ref a) ∧ Rx.PatAt G.h₀ a ∧ ∀ o, G.h₀.get? a = some o → o.dict = none

theorem paren_ok {G : GC} {n : Nat} {b c : Array UInt8} {dep i j : Int} (F : FnPD G) (P : PatOk G) (hl : Rx.left b = some c) (hi : cntB c #[40] = some i) (hj : cntB c #[41] = some j) {Q : AV → HM → Prop} (q : ∀ H', Q (.int (dep + i - j)) H') :
    SC G (n + 1) fPD [.bytes b, .int dep] noH Q := by
  obtain ⟨a, p1, p2, p3⟩ := P.is
  refine SC.of_body F ?_ (by decide) rfl rfl rfl rfl
  walk_at "b"
  walk_at "w"
  refine SE.patSub p1 rfl rfl rfl p2 p3 (fun _ => rfl) rfl rfl ?_
  walk_at "w"
  refine ⟨_, _, rfl, hl, ?_⟩
  walk_at "w"
  refine SE.countB rfl rfl ?_
  walk_at "w"
  refine ⟨_, rfl, ?_⟩
  walk_at "w"
  refine ⟨_, _, rfl, hi, ?_⟩
  walk_at "w"
  refine SE.countB rfl rfl ?_
  walk_at "w"
  refine ⟨_, rfl, ?_⟩
  walk_at "w"
  refine ⟨_, _, rfl, hj, ?_⟩
  walk_at "w"
  exact q _

noncomputable def dbl : List Nat → List Nat
  | [] => []
  | c :: r => if c = 34 then 34 :: 34 :: dbl r else c :: dbl r
theorem p257_dbl : ∀ (q rest : List Nat), rest.head? ≠ some 34 → p257 (dbl q ++ 34 :: rest) = q
  | [], rest, h => by
    show p257 (34 :: rest) = []
    cases rest with
    | nil => rfl
    | cons d r => rw [p257, if_pos rfl, if_neg (fun e => h (by rw [e]; rfl))]
  | c :: q, rest, h => by
    have ih := p257_dbl q rest h
    rw [dbl]
    split
    · rename_i hc; subst hc
      show p257 (34 :: 34 :: (dbl q ++ 34 :: rest)) = _
      rw [p257, if_pos rfl, if_pos rfl, ih]
    · rename_i hc
      show p257 (c :: (dbl q ++ 34 :: rest)) = _
      cases hq : dbl q ++ 34 :: rest with
      | nil => simp at hq
      | cons d r => rw [p257, if_neg hc, ← hq, ih]
theorem dbl_length : ∀ q : List Nat, (dbl q).length ≤ 2 * q.length
  | [] => Nat.le_refl _
  | c :: q => by
    have := dbl_length q
    rw [dbl]; split <;> simp <;> lia
noncomputable def fnAV (f : Str × Nat × Str) : AV := .tup [.str f.1, .int (f.2.1 : Nat), .str f.2.2]
noncomputable def txt (f : Str × Nat × Str) : List Nat := (stdS f.1 f.2.1 f.2.2).cps.toList
theorem txt_S (f : Str × Nat × Str) : stdS f.1 f.2.1 f.2.2 = S (txt f) := by simp [txt, S]
noncomputable def par (b : Bool) : Nat := if b then 40 else 41
noncomputable def pieceL (b : Bool) (q : List Nat) : List Nat := par b :: 34 :: (dbl q ++ [34])
noncomputable def okTok (b : Bool) (f : Str × Nat × Str) : Bool := ((S (pieceL b (txt f))).cps.findIdx? Str.isSurrogate).isNone && decide ((Rx.encB (S (pieceL b (txt f)))).size ≤ 1000) && (Rx.left (Rx.encB (S (pieceL b (txt f)))) == some #[if b then 40 else 41])
noncomputable def okF1 (f : Str × Nat × Str) : Bool := lawText f.1 f.2.1 f.2.2 == S (txt f) && replS (S (txt f)) (S [34]) (S [34, 34]) == S (dbl (txt f)) &&
  !Builtin.Str.tooLong ((S (txt f)).length + (Builtin.Str.occurrences (S (txt f)) (S [34]) 0 (S (txt f)).length ((S (txt f)).length + 1)).length * 2) && decide ((txt f).length < 100) && decide (f.1.length < 1000) && decide (f.2.2.length < 1000) &&
  decide ((StrLaws.sliceText f.2.2 (some 1) (some (-1))).length < 1000) && PyData.canLay0 (.str f.1) && PyData.canLay0 (.str (S (txt f))) && decide (f.2.1 < 10) && okTok true f && okTok false f
structure OkF (f : Str × Nat × Str) : Prop where
  o1 : lawText f.1 f.2.1 f.2.2 = S (txt f)
  o2 : replS (S (txt f)) (S [34]) (S [34, 34]) = S (dbl (txt f))
  o3 : Builtin.Str.tooLong ((S (txt f)).length + (Builtin.Str.occurrences (S (txt f)) (S [34]) 0 (S (txt f)).length ((S (txt f)).length + 1)).length * 2) = false
  o4 : (txt f).length < 100
  o5 : f.1.length < 1000
  o6 : f.2.2.length < 1000
  o7 : (StrLaws.sliceText f.2.2 (some 1) (some (-1))).length < 1000
  o8 : PyData.canLay0 (.str f.1) = true
  o9 : PyData.canLay0 (.str (S (txt f))) = true
  o10 : f.2.1 < 10
  o11 : ∀ b, A3 ((S (pieceL b (txt f))).cps.findIdx? Str.isSurrogate = none) ((Rx.encB (S (pieceL b (txt f)))).size ≤ 1000) (Rx.left (Rx.encB (S (pieceL b (txt f)))) = some #[if b then 40 else 41])
theorem okTok_ok {b : Bool} {f : Str × Nat × Str} (h : okTok b f = true) : A3 ((S (pieceL b (txt f))).cps.findIdx? Str.isSurrogate = none) ((Rx.encB (S (pieceL b (txt f)))).size ≤ 1000) (Rx.left (Rx.encB (S (pieceL b (txt f)))) = some #[if b then 40 else 41]) := by
  unfold okTok at h
  simp only [Bool.and_eq_true, decide_eq_true_eq, beq_iff_eq, Option.isNone_iff_eq_none] at h
  exact ⟨h.1.1, h.1.2, h.2⟩
theorem okF1_ok {f : Str × Nat × Str} (h : okF1 f = true) : OkF f := by
  unfold okF1 at h
  simp only [Bool.and_eq_true, decide_eq_true_eq, Bool.not_eq_true', beq_iff_eq] at h
  obtain ⟨⟨⟨⟨⟨⟨⟨⟨⟨⟨⟨o1, o2⟩, o3⟩, o4⟩, o5⟩, o6⟩, o7⟩, o8⟩, o9⟩, o10⟩, o11⟩, o12⟩ := h
  exact ⟨o1, o2, o3, o4, o5, o6, o7, o8, o9, o10, fun b => by cases b; exact okTok_ok o12; exact okTok_ok o11⟩
noncomputable def depthsFrom : Int → List (Bool × Int) → List Int
  | d, [] => [d]
  | d, p :: ps => d :: depthsFrom (d + (if p.1 then 1 else -1)) ps
noncomputable def qOf (fns : List (Str × Nat × Str)) (p : Bool × Int) : List Nat := match fns[p.2.toNat]? with
  | some f => txt f
  | none => []
noncomputable def pcL (fns : List (Str × Nat × Str)) (p : Bool × Int) : List Nat := pieceL p.1 (qOf fns p)
noncomputable def pcS (fns : List (Str × Nat × Str)) (p : Bool × Int) : Str := S (pcL fns p)
theorem catS_S : ∀ (l : List (List Nat)), catS (l.map S) = S l.flatten
  | [] => rfl
  | x :: l => by
    show S x ++ catS (l.map S) = _
    rw [catS_S l, S_app]; rfl
noncomputable abbrev fLR : Str := "_law_read"
noncomputable abbrev FnLR (G : GC) : Prop := Fn G fLR ["steps", "functions"] [] 2 (scAt 20) (bodyAt 20)
structure FnsOk (fns : List (Str × Nat × Str)) : Prop where
  ok : ∀ (k : Nat) f, fns[k]? = some f → f.2.1 = k ∧ okF1 f = true
  ne : ∀ (j k : Nat) f g, fns[j]? = some f → fns[k]? = some g → j < k → txt f ≠ txt g

theorem law_read_ok {G : GC} {n : Nat} {steps : List (Bool × Int)} {fns : List (Str × Nat × Str)} (FS : FnSS G) (FX : FnLX G) (F2 : FnP2 G) (FD : FnPD G) (P : PatOk G) (F : FnLR G) (hz : steps.length ≤ 20) (h2 : 2 ≤ steps.length) (hN : FnsOk fns) (hl : fns.length < 900)
    (hs : ∀ p ∈ steps, ∃ c : Nat, p.2 = c ∧ c < fns.length) {Q : AV → HM → Prop} (q : ∀ H', Q (.tup [.lst (steps.map stepAV), .lst (intsOf (depthsFrom 0 steps))]) H') : SC G (n + 2) fLR [.lst (steps.map stepAV), .lst (fns.map fnAV)] noH Q := by
  refine SC.of_body F ?_
  walk_at "b"
  walk_at "w"
  refine SE.list_any ?_
  walk_at "w"
  intro r hr
  walk_at "v"
  refine SS.midK (α := Unit) ["steps", "functions", "pieces"] (fun _ => [.lst (steps.map stepAV), .lst (fns.map fnAV), .ref r]) (fun _ H' => H' r = some (.list (strsOf (steps.map (pcS fns))))) ?_ ?_
  · intro K hK
    refine S1.weak (σ' := argsOf ["steps", "functions", "pieces"] [.lst (steps.map stepAV), .lst (fns.map fnAV), .ref r]) (H' := up noH r (.list [])) (by walk_at "sub") (Sub.refl _) ?_
    refine S1.for (SIt.list ?_)
    walk_at "w"
    refine ⟨_, rfl, ?_⟩
    refine ForW.invK (α := Unit) ["steps", "functions", "pieces"] (fun _ => [.lst (steps.map stepAV), .lst (fns.map fnAV), .ref r])
      (fun ds _ H' => Ex2 fun rest done => A5 (ds = rest.map stepAV) (H' r = some (.list (strsOf done))) (done ++ rest.map (pcS fns) = steps.map (pcS fns)) ((∀ p ∈ rest, p ∈ steps)) (done.length + rest.length ≤ 20)) ?_ ?_ _ () _ ⟨steps, [], rfl, by rw [up_self]; rfl, rfl, fun _ h => h, by simpa using hz⟩
    · rintro d ds _ H' ⟨rest, done, hds, hH, hdone, hin, hlen⟩ K hK
      cases rest with
      | nil => cases hds
      | cons p rest =>
      simp only [List.map_cons, List.cons.injEq] at hds
      obtain ⟨rfl, rfl⟩ := hds
      obtain ⟨c, hc1, hc2⟩ := hs p (hin p (.head _))
      obtain ⟨b, e⟩ := p
      dsimp only at hc1; subst hc1
      have hget : fns[c]? = some fns[c] := List.getElem?_eq_getElem hc2
      generalize hfc : fns[c] = f at hget
      obtain ⟨hk, hok⟩ := hN.ok c f hget
      have hq : qOf fns (b, (c : Int)) = txt f := by simp [qOf, hget]
      subst hk
      obtain ⟨o1, o2, o3, o4, o5, o6, o7, o8, o9, o10, o11⟩ := okF1_ok hok
      have hdl := dbl_length (txt f)
      simp only [List.length_cons] at hlen
      refine SA.tuple rfl rfl ⟨rfl, SA.name rfl ⟨rfl, SA.name rfl ?_⟩⟩
      refine SS.cons ?_
      walk_at "w"
      refine SE.repl FS.isFn rfl rfl rfl (fun _ => rfl) rfl (by decide) ?_
      walk_at "w"
      refine SE.item ?_
      walk_at "w"
      refine ⟨_, fnAV f, f.2.1, .inl rfl, rfl, by walk_at "lk", by rw [List.getElem?_map, hget]; rfl, ?_⟩
      walk_at "w"
      refine func_std_ok FS o10 o5 o6 o7 o8 fun H3 => ?_
      rw [txt_S]
      refine ⟨_, rfl, o3, by rw [show replS (S (txt f)) { cps := #[34] } { cps := #[34, 34] } = _ from o2, S_len]; walk_at "lk", ?_⟩
      rw [show replS (S (txt f)) { cps := #[34] } { cps := #[34, 34] } = _ from o2]
      walk_at "w"
      walk_at "m"
      walk_at "w"
      refine ⟨r, _, rfl, hH, ?_⟩
      walk_at "w"
      have hp : S (pieceL b (txt f)) = pcS fns (b, (f.2.1 : Int)) := by unfold pcS pcL; rw [hq]
      cases b
      · refine ⟨(fun e => nomatch e), fun _ => ?_⟩
        walk_at "w"
        refine SV2.addS (by unfold lineOk; decide) ?_
        walk_at "w"
        refine SV2.addS (by rw [S_len]; show lineOk (2 + (dbl (txt f)).length); walk_at "lk") ?_
        walk_at "w"
        refine SV2.addS (by rw [Str.length_append, S_len]; show lineOk (2 + (dbl (txt f)).length + 1); walk_at "lk") ?_
        walk_at "w"
        rw [show (({ cps := #[41] } : Str) ++ ({ cps := #[34] } : Str) ++ S (dbl (txt f)) ++ ({ cps := #[34] } : Str)) = S (pieceL false (txt f)) by
          rw [show (({ cps := #[41] } : Str) ++ ({ cps := #[34] } : Str)) = S [41, 34] from rfl, S_app, show ({ cps := #[34] } : Str) = S [34] from rfl, S_app]; rfl, hp]
        refine ⟨_, hH, by simp [strsOf]; walk_at "lk", ?_⟩
        walk_at "w"
        refine hK _ _ ⟨(), by walk_at "sub", rest, done ++ [pcS fns (false, (f.2.1 : Int))], rfl, ?_, ?_, fun p hp => hin p (.tail _ hp), by simp; lia⟩
        · rw [up_self]; simp [strsOf]
        · rw [← hdone]; simp
      · refine ⟨fun _ => ?_, (fun e => nomatch e)⟩
        walk_at "w"
        refine SV2.addS (by unfold lineOk; decide) ?_
        walk_at "w"
        refine SV2.addS (by rw [S_len]; show lineOk (2 + (dbl (txt f)).length); walk_at "lk") ?_
        walk_at "w"
        refine SV2.addS (by rw [Str.length_append, S_len]; show lineOk (2 + (dbl (txt f)).length + 1); walk_at "lk") ?_
        walk_at "w"
        rw [show (({ cps := #[40] } : Str) ++ ({ cps := #[34] } : Str) ++ S (dbl (txt f)) ++ ({ cps := #[34] } : Str)) = S (pieceL true (txt f)) by
          rw [show (({ cps := #[40] } : Str) ++ ({ cps := #[34] } : Str)) = S [40, 34] from rfl, S_app, show ({ cps := #[34] } : Str) = S [34] from rfl, S_app]; rfl, hp]
        refine ⟨_, hH, by simp [strsOf]; walk_at "lk", ?_⟩
        walk_at "w"
        refine hK _ _ ⟨(), by walk_at "sub", rest, done ++ [pcS fns (true, (f.2.1 : Int))], rfl, ?_, ?_, fun p hp => hin p (.tail _ hp), by simp; lia⟩
        · rw [up_self]; simp [strsOf]
        · rw [← hdone]; simp
    · rintro _ H' ⟨rest, done, hds, hH, hdone, _, _⟩
      have : rest = [] := by cases rest with | nil => rfl | cons _ _ => cases hds
      subst this
      rw [List.map_nil, List.append_nil] at hdone
      exact hK _ _ ⟨(), fun _ _ h => h, by rw [hH, hdone]⟩
  · rintro _ H' hH
    walk_at "w"
    refine SE.joinS rfl rfl ?_
    walk_at "w"
    have hpl : ∀ p ∈ steps, (pcL fns p).length ≤ 203 := fun p hp => by
      obtain ⟨c, hc1, hc2⟩ := hs p hp
      obtain ⟨hk, hok⟩ := hN.ok c _ (List.getElem?_eq_getElem hc2)
      have hq : qOf fns p = txt fns[c] := by simp [qOf, hc1, List.getElem?_eq_getElem hc2]
      have h4 := (okF1_ok hok).o4
      have := dbl_length (txt fns[c])
      unfold pcL pieceL
      rw [hq]
      simp; lia
    have hcat : catS (steps.map (pcS fns)) = S (steps.map (pcL fns)).flatten := by
      rw [← catS_S, List.map_map]; rfl
    have hfl : ∀ l : List (Bool × Int), (∀ p ∈ l, (pcL fns p).length ≤ 203) → ((l.map (pcL fns)).flatten).length ≤ 203 * l.length := by
      intro l
      induction l with
      | nil => intro _; simp
      | cons p l ih =>
        intro h
        have h1 := h p (.head _)
        have h2 := ih fun q hq => h q (.tail _ hq)
        rw [List.map_cons, List.flatten_cons, List.length_append, List.length_cons]
        lia
    have hlen := hfl steps hpl
    have hfold : ∀ (l : List (Bool × Int)) (a : Nat), (∀ p ∈ l, (pcL fns p).length ≤ 203) → (l.map (pcS fns)).foldl (fun x1 x2 => x1 + x2.length + 0) a ≤ a + 203 * l.length := by
      intro l
      induction l with
      | nil => intro a _; simp
      | cons p l ih =>
        intro a h
        have h1 := h p (.head _)
        have h2 := ih (a + (pcS fns p).length + 0) fun q hq => h q (.tail _ hq)
        have h3 : (pcS fns p).length = (pcL fns p).length := S_len _
        rw [List.map_cons, List.foldl_cons, List.length_cons]
        lia
    refine ⟨_, .inr ⟨r, rfl, hH⟩, by rw [List.length_map]; lia, ?_, ?_, ?_⟩
    · have := hfold steps 0 hpl
      unfold Builtin.Str.tooLong
      rw [List.foldl_toArray, sizeLine_eq]
      exact decide_eq_false (by lia)
    · rw [hcat, S_len]; walk_at "lk"
    rw [hcat]
    generalize hL : (steps.map (pcL fns)).flatten = L at hlen
    walk_at "v"
    refine SS.cons (S1.assignCompL rfl rfl (SIt.list ?_))
    walk_at "w"
    refine ⟨_, rfl, ?_⟩
    refine CmpW.indK (fun ds ac H2 => Ex2 fun rest done => A6 (ds = rest.map fnAV) (ac = strsOf done) (done ++ rest.map (fun f => S (txt f)) = fns.map (fun f => S (txt f))) (H2 = H') ((∀ f ∈ rest, f ∈ fns)) (done.length + rest.length ≤ fns.length)) ?_ ?_
      _ [] _ ⟨fns, [], rfl, rfl, rfl, rfl, fun _ h => h, by simp⟩
    · rintro d ds ac H2 ⟨rest, done, hds, rfl, hdone, rfl, hin, hle⟩ K hK
      cases rest with
      | nil => cases hds
      | cons f rest =>
      simp only [List.map_cons, List.cons.injEq] at hds
      obtain ⟨rfl, rfl⟩ := hds
      simp only [List.length_cons] at hle
      obtain ⟨k, hk, hkf⟩ := List.getElem_of_mem (hin f (.head _))
      obtain ⟨hk1, hok⟩ := hN.ok k f (by rw [List.getElem?_eq_getElem hk, hkf])
      obtain ⟨o1, o2, o3, o4, o5, o6, o7, o8, o9, o10, o11⟩ := okF1_ok hok
      refine ⟨_, rfl, STs.nil ⟨fun _ => ?_, fun e => nomatch e⟩⟩
      refine SE.callP FX.isFn ?_ rfl rfl
      walk_at "w"
      refine law_text_ok FX o10 o5 o6 fun H3 => ?_
      rw [o1]
      refine hK _ _ ⟨by simp [strsOf]; walk_at "lk", rest, done ++ [S (txt f)], rfl, by simp [strsOf], by rw [← hdone]; simp, rfl, fun g hg => hin g (.tail _ hg), by simp; lia⟩
    · rintro ac H2 ⟨rest, done, hds, rfl, hdone, rfl, hin, hle⟩
      have : rest = [] := by cases rest with | nil => rfl | cons _ _ => cases hds
      subst this
      rw [List.map_nil, List.append_nil] at hdone
      subst hdone
      intro D hD
      have hDr : D ≠ r := by rintro rfl; rw [hH] at hD; cases hD
      walk_at "v"
      refine SS.cons ?_
      walk_at "v"
      refine SE.list_any ?_
      walk_at "v"
      intro T hT
      have hTD : T ≠ D := by rintro rfl; rw [up_self] at hT; cases hT
      have hTr : T ≠ r := by rintro rfl; rw [up_ne _ _ hDr.symm, hH] at hT; cases hT
      walk_at "v"
      refine SS.cons ?_
      walk_at "v"
      refine SE.list_any ?_
      walk_at "v"
      intro E hE
      have hET : E ≠ T := by rintro rfl; rw [up_self] at hE; cases hE
      have hED : E ≠ D := by rintro rfl; rw [up_ne _ _ hTD.symm, up_self] at hE; cases hE
      have hEr : E ≠ r := by rintro rfl; rw [up_ne _ _ hTr.symm, up_ne _ _ hDr.symm, hH] at hE; cases hE
      walk_at "v"
      refine SS.cons ?_
      walk_at "v"
      refine SS.midK (α := Nat) ["told", "depths"] (fun _ => [.ref T, .ref E]) (fun _ H' => A2 (H' T = some (.list (steps.map stepAV))) (H' E = some (.list (intsOf (depthsFrom 0 steps))))) ?_ ?_
      · intro K hK
        generalize hH0 : up (up (up H2 D (.list (strsOf (fns.map fun f => S (txt f))))) T (.list [])) E (.list [.int 0]) = H0
        have hr0 : H0 r = some (.list (strsOf (steps.map (pcS fns)))) := by rw [← hH0, up_ne _ _ hEr.symm, up_ne _ _ hTr.symm, up_ne _ _ hDr.symm, hH]
        have hD0 : H0 D = some (.list (strsOf (fns.map fun f => S (txt f)))) := by rw [← hH0, up_ne _ _ hED.symm, up_ne _ _ hTD.symm, up_self]
        have hT0 : H0 T = some (.list []) := by rw [← hH0, up_ne _ _ hET.symm, up_self]
        have hE0 : H0 E = some (.list [.int 0]) := by rw [← hH0, up_self]
        refine S1.weak (σ' := argsOf ["pieces", "line", "due", "told", "depths", "at"] [.ref r, .str (S L), .ref D, .ref T, .ref E, .int (0 : Nat)]) (H' := H0) (by walk_at "sub") (by rw [← hH0]; exact Sub.refl _) ?_
        refine S1.for (SIt.list (SE.leave ?_))
        walk_at "w"
        refine ⟨r, _, rfl, hr0, _, rfl, ?_⟩
        have dn : ∀ a, a ≠ r → (del H0 r) a = H0 a := fun a ha => by unfold del; rw [if_neg ha]
        refine ForW.invK (α := Nat) ["pieces", "line", "due", "told", "depths", "at"] (fun a => [.ref r, .str (S L), .ref D, .ref T, .ref E, .int (a : Nat)])
          (fun ds a H' => Ex5 fun (rest td : List (Bool × Int)) (dd : List Int) (cur : Int) (pre : List Nat) => A9 (ds = strsOf (rest.map (pcS fns))) (H' D = some (.list (strsOf (fns.map fun f => S (txt f))))) (H' T = some (.list (td.map stepAV))) (H' E = some (.list (intsOf (dd ++ [cur])))) (L = pre ++ (rest.map (pcL fns)).flatten) (a = pre.length) (td ++ rest = steps) (dd ++ depthsFrom cur rest = depthsFrom 0 steps) (td.length = dd.length)) ?_ ?_ _ 0 _
          ⟨steps, [], [], 0, [], rfl, by rw [dn _ hDr]; exact hD0, by rw [dn _ hTr]; exact hT0, by rw [dn _ hEr]; exact hE0, hL.symm, rfl, rfl, rfl, rfl⟩
        · rintro d ds a H' ⟨rest, td, dd, cur, pre, hds, hD1, hT1, hE1, hL1, ha, htd, hdd, hlt⟩ K hK
          cases rest with
          | nil => cases hds
          | cons p rest =>
          simp only [List.map_cons, strsOf, List.cons.injEq] at hds
          obtain ⟨rfl, rfl⟩ := hds
          have hin : p ∈ steps := by rw [← htd]; simp
          obtain ⟨c, hc1, hc2⟩ := hs p hin
          obtain ⟨b, e⟩ := p
          dsimp only at hc1; subst hc1
          have hget : fns[c]? = some fns[c] := List.getElem?_eq_getElem hc2
          generalize hfc : fns[c] = f at hget
          obtain ⟨hk, hok⟩ := hN.ok c f hget
          have hq : qOf fns (b, (c : Int)) = txt f := by simp [qOf, hget]
          have hp : pcL fns (b, (c : Int)) = pieceL b (txt f) := by unfold pcL; rw [hq]
          have hpS : pcS fns (b, (c : Int)) = S (pieceL b (txt f)) := by unfold pcS; rw [hp]
          obtain ⟨o1, o2, o3, o4, o5, o6, o7, o8, o9, o10, o11⟩ := okF1_ok hok
          obtain ⟨t1, t2, t3⟩ := o11 b
          have hdl := dbl_length (txt f)
          rw [List.map_cons, List.flatten_cons, hp] at hL1
          generalize htl : (rest.map (pcL fns)).flatten = tl at hL1
          have htl34 : tl.head? ≠ some 34 := by
            rw [← htl]
            cases rest with
            | nil => simp
            | cons p2 r2 =>
              rw [List.map_cons, List.flatten_cons]
              unfold pcL pieceL par
              rcases p2 with ⟨b2, e2⟩
              cases b2 <;> simp
          have hlen2 : L.length = pre.length + (2 + (dbl (txt f)).length + 1 + tl.length) := by rw [hL1]; simp [pieceL]; lia
          have hLle : L.length ≤ 203 * 20 := by lia
          have hLa : L[a]? = some (par b) := by rw [hL1, ha]; simp [pieceL]
          have hLd : L.drop (a + 1) = 34 :: (dbl (txt f) ++ 34 :: tl) := by
            rw [hL1, ha, show pre.length + 1 = pre.length + 1 from rfl, ← List.drop_drop, List.drop_left]; simp [pieceL]
          refine SA.name rfl ?_
          walk_at "w"
          refine SE.callP F2.isFn ?_ rfl rfl
          walk_at "w"
          refine SE.strCut ?_
          walk_at "w"
          refine SEo.some ?_
          walk_at "w"
          have e1 : StrLaws.sliceText (S L) (some ((a : Int) + 1)) none = S (34 :: (dbl (txt f) ++ 34 :: tl)) := by
            have := slice_from L (a + 1) (by lia)
            rw [hLd] at this
            exact_mod_cast this
          refine ⟨_, rfl, SEo.none ⟨_, rfl, by rw [e1, S_len]; simp; walk_at "lk", ?_⟩⟩
          rw [e1]
          refine SV2.addS (by rw [S_len]; show lineOk (4 + _); simp; walk_at "lk") ?_
          rw [show (({ cps := #[50, 53, 55, 32] } : Str) ++ S (34 :: (dbl (txt f) ++ 34 :: tl))) = S (50 :: 53 :: 55 :: 32 :: 34 :: (dbl (txt f) ++ 34 :: tl)) from S_app [50, 53, 55, 32] _]
          walk_at "w"
          refine parse257_ok F2 (by simp; lia) fun H3 => ?_
          rw [p257_dbl _ _ htl34]
          walk_at "w"
          walk_at "m"
          walk_at "w"
          refine ⟨T, _, rfl, hT1, ?_⟩
          have hcn : (fns.map fun f => S (txt f))[c]? = some (S (txt f)) := by rw [List.getElem?_map, hget]; rfl
          have hlay : PyData.canLayAll0 ((fns.map fun f => S (txt f)).map .str) = true := by
            have : ∀ l : List (Str × Nat × Str), (∀ g ∈ l, g ∈ fns) → PyData.canLayAll0 ((l.map fun f => S (txt f)).map .str) = true := by
              intro l
              induction l with
              | nil => intro _; rfl
              | cons g l ih =>
                intro h
                obtain ⟨k, hk, hkf⟩ := List.getElem_of_mem (h g (.head _))
                obtain ⟨_, hok⟩ := hN.ok k g (by rw [List.getElem?_eq_getElem hk, hkf])
                have h1 := (okF1_ok hok).o9
                have h2 := ih fun x hx => h x (.tail _ hx)
                simp only [List.map_cons, PyData.canLayAll0, h1, h2, Bool.and_true]
            exact this fns fun _ h => h
          have hany : (((fns.map fun f => S (txt f)).map PyData.str).any fun y => PyData.eqv y (.str (S (txt f)))) = true := by
            rw [List.any_eq_true]
            refine ⟨.str (S (txt f)), List.mem_map_of_mem (List.mem_of_getElem? hcn), ?_⟩
            show (S (txt f) == S (txt f)) = true
            simp
          have hidx : ∀ m, m < c → (fns.map fun f => S (txt f))[m]? ≠ some (S (txt f)) := by
            intro m hm e
            rw [List.getElem?_map] at e
            cases hg : fns[m]? with
            | none => rw [hg] at e; cases e
            | some g =>
              rw [hg] at e
              have : S (txt g) = S (txt f) := by simpa using e
              exact hN.ne m c g f hg hget hm (by simpa [S] using this)
          have hple : ∀ ns : List Str, plainL (strsOf ns) = true ∧ pdL (strsOf ns) = ns.map .str := by
            intro ns
            induction ns with
            | nil => exact ⟨rfl, rfl⟩
            | cons x ns ih => exact ⟨by simp only [strsOf, List.map_cons, plainL] at ih ⊢; rw [ih.1]; rfl, by simp only [strsOf, List.map_cons, pdL] at ih ⊢; rw [ih.2]; rfl⟩
          refine SE.tup rfl ?_
          walk_at "w"
          refine SE.strItem ?_
          walk_at "w"
          refine ⟨_, a, par b, rfl, rfl, by rw [S_len]; walk_at "lk", by rw [S_get]; exact hLa, ?_⟩
          walk_at "w"
          refine SV2.eqS ?_
          walk_at "w"
          refine op_inS (.inr ⟨D, _, rfl, hD1, (hple _).1, by rw [(hple _).2]⟩) hlay o9 ?_
          rw [hany]
          refine ⟨_, rfl, fun _ => ?_, fun e => nomatch e⟩
          refine SE.meth (T := "list") (id := "list.index") PySem.F.plainAttrs_list PySem.F.slot_list_index PySem.F.type_list_index ?_ (fun _ => rfl) rfl rfl rfl
          walk_at "w"
          refine ⟨by simp [tyOf, hD1], ?_⟩
          walk_at "w"
          refine op_indexS hD1 (by rw [List.length_map]; walk_at "lk") hcn hidx ?_
          walk_at "w"
          have htl2 : td.length + (rest.length + 1) = steps.length := by rw [← htd]; simp
          refine ⟨_, hT1, by rw [List.length_map]; walk_at "lk", ?_⟩
          have hET' : up H' T (.list (td.map stepAV ++ [AV.tup [AV.bool (({ cps := #[par b] } : Str) == { cps := #[40] }), AV.int (c : Int)]])) E = H' E := up_ne _ _ hET
          walk_at "w"
          walk_at "m"
          walk_at "w"
          refine ⟨E, _, rfl, hET'.trans hE1, ?_⟩
          refine SE.callP FD.isFn ?_ rfl rfl
          walk_at "w"
          refine SE.encode rfl ?_
          walk_at "w"
          rw [hpS]
          refine ⟨_, rfl, t1, by rw [S_len]; simp [pieceL], Nat.le_trans t2 (by rw [sizeLine_eq]; lia), ?_⟩
          walk_at "w"
          refine SE.sub (T := "list") list_getitem_lookup ?_
          walk_at "w"
          refine SE.neg ?_
          walk_at "w"
          refine ⟨1, rfl, by simp [tyOf, hET'.trans hE1], ?_⟩
          have hDn : LstOf (up H' T (.list (td.map stepAV ++ [AV.tup [AV.bool (({ cps := #[par b] } : Str) == { cps := #[40] }), AV.int (c : Int)]]))) (.ref E) (intsOf dd ++ [.int cur]) := .inr ⟨E, rfl, by rw [hET', hE1]; simp [intsOf]⟩
          refine op_itemNeg1 hDn ?_
          walk_at "w"
          have hpar : ∃ i j, cntB (#[if b = true then 40 else 41] : Array UInt8) #[40] = some i ∧ cntB (#[if b = true then 40 else 41] : Array UInt8) #[41] = some j ∧ cur + i - j = cur + (if b = true then 1 else -1) := by
            cases b
            · exact ⟨0, 1, by decide, by decide, by simp; lia⟩
            · exact ⟨1, 0, by decide, by decide, by simp⟩
          obtain ⟨i, j, hi, hj, hij⟩ := hpar
          refine paren_ok FD P t3 hi hj fun H3 => ?_
          rw [hij]
          refine ⟨_, hET'.trans hE1, by simp [intsOf]; walk_at "lk", ?_⟩
          walk_at "w"
          refine op_strLen (by rw [S_len]; simp [pieceL]; walk_at "lk") ?_
          rw [S_len]
          walk_at "w"
          have hb : (({ cps := #[par b] } : Str) == { cps := #[40] }) = b := by cases b <;> decide
          refine hK _ _ ⟨a + (pieceL b (txt f)).length, by walk_at "sub", rest, td ++ [(b, (c : Int))], dd ++ [cur], cur + (if b = true then 1 else -1), pre ++ pieceL b (txt f), rfl, ?_, ?_, ?_, ?_, ?_, ?_, ?_, ?_⟩
          · rw [up_ne _ _ hED.symm, up_ne _ _ hTD.symm]; exact hD1
          · rw [up_ne _ _ hET.symm, up_self, hb]; simp [stepAV]
          · rw [up_self]; simp [intsOf]
          · rw [hL1, htl]; simp
          · rw [ha]; simp
          · rw [← htd]; simp
          · rw [← hdd]; simp [depthsFrom]
          · simp [hlt]
        · rintro a H' ⟨rest, td, dd, cur, pre, hds, hD1, hT1, hE1, hL1, ha, htd, hdd, hlt⟩
          have : rest = [] := by cases rest with | nil => rfl | cons _ _ => cases hds
          subst this
          refine hK _ _ ⟨0, by walk_at "sub", ?_, ?_⟩
          · rw [hT1, ← htd, List.append_nil]
          · rw [hE1, ← hdd]; rfl
      · rintro _ H' ⟨hT1, hE1⟩
        refine SS.cons (S1.ret (SE.tup rfl ?_))
        refine SEs.cons rfl (SE.leave ?_)
        walk_at "w"
        refine ⟨T, _, rfl, hT1, ?_⟩
        refine SEs.cons rfl (SE.leave ?_)
        walk_at "w"
        refine ⟨E, _, rfl, (by unfold del; rw [if_neg hET]; exact hE1), ?_⟩
        refine SEs.nil ?_
        exact q _

noncomputable def thePaths : List Str := [S [126], S [97, 34], S [40, 98], S [34, 41], S []]
noncomputable def theNames : List Str := [S [60, 102, 62], S [103, 34], S [41], S [104, 40]]
noncomputable def seqsFrom (size : Nat) : Nat → Nat → List Int → List (List (Bool × Int))
  | 0, _, _ => [[]]
  | k + 1, nf, run =>
    (if nf < size then (seqsFrom size k (nf + 1) (run ++ [(nf : Int)])).map ((true, (nf : Int)) :: ·) else []) ++
    (List.range run.length).flatMap fun i => (seqsFrom size k nf (run.eraseIdx i)).map ((false, run.getD i 0) :: ·)
structure DrawnFns (fns : List (Str × Nat × Str)) : Prop where
  at_ : ∀ (k : Nat) f, fns[k]? = some f → f.2.1 = k ∧ f.1 ∈ thePaths ∧ f.2.2 ∈ theNames
noncomputable abbrev fLT : Str := "_law_trace"
noncomputable abbrev FnLT (G : GC) : Prop := Fn G fLT ["script", "size"] [] 2 (scAt 18) (bodyAt 18)
theorem law_trace_ok {G : GC} {n size : Nat} {ns : List Int} (F : FnLT G) (hz : ns.length < 900) (hs1 : 1 ≤ size) (hs : size ≤ 5) {Q : AV → HM → Prop}
    (q : ∀ (steps : List (Bool × Int)) (fns : List (Str × Nat × Str)) H', steps ∈ seqsFrom size (2 * size) 0 [] → DrawnFns fns → fns.length = size → Q (.tup [.lst (steps.map stepAV), .lst (fns.map fnAV)]) H') :
    SC G (n + 1) fLT [.lst (intsOf ns), .int size] noH Q := by
  refine SC.of_body F ?_
  walk_at "b"
  refine SS.cons ?_
  walk_at "v"
  refine SE.list ?_
  walk_at "v"
  refine SS.cons ?_
  walk_at "v"
  refine SE.list_any ?_
  walk_at "v"
  intro st hst
  walk_at "v"
  refine SS.cons ?_
  walk_at "v"
  refine SE.list_any ?_
  walk_at "v"
  intro fn hfn
  have hfs : fn ≠ st := by rintro rfl; rw [up_self] at hfn; cases hfn
  walk_at "v"
  refine SS.cons ?_
  walk_at "v"
  refine SE.list_any ?_
  walk_at "v"
  intro ru hru
  have hrf : ru ≠ fn := by rintro rfl; rw [up_self] at hru; cases hru
  have hrs : ru ≠ st := by rintro rfl; rw [up_ne _ _ hfs.symm, up_self] at hru; cases hru
  walk_at "v"
  refine SS.midK (α := Unit) ["steps", "functions"] (fun _ => [.ref st, .ref fn]) (fun _ H' => Ex2 fun steps fns => A5 (H' st = some (.list (steps.map stepAV))) (H' fn = some (.list (fns.map fnAV))) (steps ∈ seqsFrom size (2 * size) 0 []) (DrawnFns fns) (fns.length = size)) ?_ ?_
  · intro K hK
    refine S1.weak (σ' := argsOf ["script", "size", "fixed", "steps", "functions", "running"] [.lst (intsOf ns), .int size, .lst (intsOf [0, 2, 1, 14, 26, 3, 4, 2, 5, 7]), .ref st, .ref fn, .ref ru]) (H' := up (up (up noH st (.list [])) fn (.list [])) ru (.list [])) (by walk_at "sub") (Sub.refl _) ?_
    refine S1.for (SIt.range rfl rfl rfl ?_)
    walk_at "w"
    refine SV2.mul ?_ (.of_left (by decide))
    refine ⟨2 * size, by push_cast; rfl, by walk_at "lk", ?_⟩
    refine ForW.invK (α := Unit) ["script", "size", "fixed", "steps", "functions", "running"] (fun _ => [.lst (intsOf ns), .int size, .lst (intsOf [0, 2, 1, 14, 26, 3, 4, 2, 5, 7]), .ref st, .ref fn, .ref ru])
      (fun ds _ H' => Ex4 fun (k : Nat) (steps : List (Bool × Int)) (fns : List (Str × Nat × Str)) (run : List Int) => A10 (ds = ((List.range (2 * size)).drop k).map (fun (i : Nat) => AV.int (i : Int))) (k ≤ 2 * size) (H' st = some (.list (steps.map stepAV))) (H' fn = some (.list (fns.map fnAV))) (H' ru = some (.list (intsOf run))) (DrawnFns fns) (fns.length ≤ size) (run.length + k = 2 * fns.length) (steps.length = k) (∀ t ∈ seqsFrom size (2 * size - k) fns.length run, steps ++ t ∈ seqsFrom size (2 * size) 0 [])) ?_ ?_ _ () _
      ⟨0, [], [], [], rfl, Nat.zero_le _, by rw [up_ne _ _ hrs.symm, up_ne _ _ hfs.symm, up_self]; rfl, by rw [up_ne _ _ hrf.symm, up_self]; rfl, by rw [up_self]; rfl, ⟨fun k f e => by simp at e⟩, Nat.zero_le _, rfl, rfl, fun t h => h⟩
    · rintro d ds _ H' ⟨k, steps, fns, run, hds, hk, hS, hF, hR, hD, hfl, hrun, hsl, hgo⟩ K hK
      obtain ⟨hk2, rfl, hds2⟩ := range_next hds
      obtain ⟨fx, hfx⟩ : ∃ fx, ([0, 2, 1, 14, 26, 3, 4, 2, 5, 7] : List Int)[k]? = some fx := ⟨_, List.getElem?_eq_getElem (by simp; lia)⟩
      refine SA.name rfl ?_
      walk_at "w"
      refine SE.item ?_
      walk_at "w"
      refine ⟨_, .int fx, k, .inl rfl, rfl, by walk_at "lk", by unfold intsOf; rw [List.getElem?_map, hfx]; rfl, ?_⟩
      walk_at "w"
      refine SE.cutStep ?_
      walk_at "w"
      refine ⟨_, rfl, ?_⟩
      walk_at "w"
      refine SV2.mul ?_ (.of_left (by decide))
      refine ⟨ns, _, .inl rfl, rfl, by lia, by walk_at "lk", ?_⟩
      refine op_sum (.inl rfl) ?_
      walk_at "w"
      refine SV2.mod (by decide) ?_
      have hn0 : 0 ≤ (fx + (pickNums ns (some (k : Int)) none (some (2 * (size : Int)))).sum).fmod ((2400 : Nat) : Int) := Int.fmod_nonneg_of_pos _ (by decide)
      have hn1 : (fx + (pickNums ns (some (k : Int)) none (some (2 * (size : Int)))).sum).fmod ((2400 : Nat) : Int) < 2400 := Int.fmod_lt_of_pos _ (by decide)
      generalize (fx + (pickNums ns (some (k : Int)) none (some (2 * (size : Int)))).sum).fmod ((2400 : Nat) : Int) = num at hn0 hn1
      obtain ⟨N, rfl⟩ := Int.eq_ofNat_of_zero_le hn0
      have hN : N < 2400 := by lia
      refine SA.name rfl ?_
      refine SS.cons (S1.if (ST.mono (Q := fun b H1 => (b = true → fns.length < size) ∧ (b = false → run ≠ []) ∧ H1 = H') ?_ ?_))
      · walk_at "w"
        refine SE.list ?_
        walk_at "w"
        refine SV2.eqD (.inr ⟨ru, _, rfl, hR, plainL_ints run, rfl⟩) (.inl ⟨rfl, rfl⟩) ((okD_ints run).shaped (by decide)) rfl ?_
        rw [show pd (.lst []) = PyData.list [] from rfl, eqv_ints_nil]
        refine ⟨_, rfl, fun e => ?_, fun e => ?_⟩
        · have : run = [] := by simpa using e
          refine ⟨fun _ => ?_, (fun e => nomatch e), rfl⟩
          rw [this] at hrun; simp at hrun; lia
        · have hne : run ≠ [] := fun e2 => by rw [e2] at e; exact absurd e (by decide)
          walk_at "w"
          refine op_len (.inr ⟨fn, rfl, hF⟩) (by rw [List.length_map]; walk_at "lk") ?_
          rw [List.length_map]
          walk_at "w"
          refine ⟨_, rfl, fun e => ?_, fun e => ?_⟩
          · have hlt : fns.length < size := by simpa using e
            walk_at "w"
            refine SV2.mod (by decide) ?_
            walk_at "w"
            refine ⟨_, rfl, fun e => ?_, fun e => ?_⟩
            · walk_at "w"
              exact ⟨fun _ => ⟨fun _ => hlt, (fun e => nomatch e), rfl⟩, fun e => nomatch e⟩
            · refine ⟨(fun e => nomatch e), fun _ => ?_⟩
              walk_at "w"
              exact ⟨(fun e => nomatch e), fun _ => hne, rfl⟩
          · refine ⟨(fun e => nomatch e), fun _ => ?_⟩
            walk_at "w"
            exact ⟨(fun e => nomatch e), fun _ => hne, rfl⟩
      · rintro b H1 ⟨hb1, hb2, rfl⟩
        refine ⟨fun hb => ?_, fun hb => ?_⟩
        · have hlt := hb1 hb
          walk_at "w"
          refine SE.item ?_
          refine SE.list ?_
          walk_at "w"
          have fm : ∀ a b : Nat, 0 < b → ((a : Int).fdiv 2).fmod (b : Int) = ((a / 2 % b : Nat) : Int) := fun a b hb => by
            rw [Int.fdiv_eq_ediv_of_nonneg _ (by decide), Int.fmod_eq_emod_of_nonneg _ (by lia)]; rfl
          have fd : ∀ a b : Nat, 0 < b → ((a : Int).fdiv 10).fmod (b : Int) = ((a / 10 % b : Nat) : Int) := fun a b hb => by
            rw [Int.fdiv_eq_ediv_of_nonneg _ (by decide), Int.fmod_eq_emod_of_nonneg _ (by lia)]; rfl
          obtain ⟨path, hpath⟩ : ∃ p, thePaths[N / 2 % 5]? = some p := ⟨_, List.getElem?_eq_getElem (show N / 2 % 5 < 5 from Nat.mod_lt _ (by decide))⟩
          obtain ⟨name, hname⟩ : ∃ p, theNames[N / 10 % 4]? = some p := ⟨_, List.getElem?_eq_getElem (show N / 10 % 4 < 4 from Nat.mod_lt _ (by decide))⟩
          refine SV2.div (by decide) (PyProof.noPylong_small (by decide)) ?_
          walk_at "w"
          refine SV2.mod (by decide) ?_
          refine ⟨thePaths.map .str, .str path, N / 2 % 5, .inl rfl, by rw [← fm N 5 (by decide)], by walk_at "lk", by rw [List.getElem?_map, hpath]; rfl, ?_⟩
          refine SA.name rfl ?_
          walk_at "w"
          refine SE.item ?_
          refine SE.list ?_
          walk_at "w"
          refine SV2.div (by decide) (PyProof.noPylong_small (by decide)) ?_
          walk_at "w"
          refine SV2.mod (by decide) ?_
          refine ⟨theNames.map .str, .str name, N / 10 % 4, .inl rfl, by rw [← fd N 4 (by decide)]; rfl, by walk_at "lk", by rw [List.getElem?_map, hname]; rfl, ?_⟩
          refine SA.name rfl ?_
          walk_at "w"
          walk_at "m"
          walk_at "w"
          refine ⟨ru, _, rfl, hR, ?_⟩
          walk_at "w"
          refine op_len (.inr ⟨fn, rfl, hF⟩) (by rw [List.length_map]; walk_at "lk") ?_
          rw [List.length_map]
          refine ⟨_, hR, by rw [length_ints]; walk_at "lk", ?_⟩
          have hS1 : up H1 ru (.list (intsOf run ++ [.int (fns.length : Nat)])) st = some (.list (steps.map stepAV)) := (up_ne _ _ hrs.symm).trans hS
          have hF1 : up H1 ru (.list (intsOf run ++ [.int (fns.length : Nat)])) fn = some (.list (fns.map fnAV)) := (up_ne _ _ hrf.symm).trans hF
          generalize hH2 : up H1 ru (.list (intsOf run ++ [.int (fns.length : Nat)])) = H2 at hS1 hF1
          have hR1 : H2 ru = some (.list (intsOf run ++ [.int (fns.length : Nat)])) := by rw [← hH2, up_self]
          walk_at "w"
          walk_at "m"
          walk_at "w"
          refine ⟨st, _, rfl, hS1, ?_⟩
          walk_at "w"
          refine op_len (.inr ⟨fn, rfl, hF1⟩) (by rw [List.length_map]; walk_at "lk") ?_
          rw [List.length_map]
          walk_at "w"
          refine ⟨_, hS1, by rw [List.length_map]; walk_at "lk", ?_⟩
          have hF2 : up H2 st (.list (steps.map stepAV ++ [.tup [.bool true, .int (fns.length : Nat)]])) fn = some (.list (fns.map fnAV)) := (up_ne _ _ hfs).trans hF1
          walk_at "w"
          walk_at "m"
          walk_at "w"
          refine ⟨fn, _, rfl, hF2, ?_⟩
          walk_at "w"
          refine op_len (.inr ⟨fn, rfl, hF2⟩) (by rw [List.length_map]; walk_at "lk") ?_
          rw [List.length_map]
          walk_at "w"
          refine ⟨_, hF2, by rw [List.length_map]; walk_at "lk", ?_⟩
          walk_at "w"
          refine hK _ _ ⟨(), by walk_at "sub", k + 1, steps ++ [(true, (fns.length : Int))], fns ++ [(path, fns.length, name)], run ++ [(fns.length : Int)], hds2, by lia, ?_, ?_, ?_, ⟨?_⟩, by simp; lia, by simp; lia, by simp [hsl], ?_⟩
          · rw [up_ne _ _ hfs.symm, up_self]; simp [stepAV]
          · rw [up_self]; simp [fnAV]
          · rw [up_ne _ _ hrf, up_ne _ _ hrs, hR1]; simp [intsOf]
          · intro j f hj
            rcases Nat.lt_or_ge j fns.length with h | h
            · rw [List.getElem?_append_left h] at hj; exact hD.at_ j f hj
            · rw [List.getElem?_append_right h] at hj
              have : j - fns.length = 0 := by
                have := (List.getElem?_eq_some_iff.mp hj).1
                simp at this; lia
              rw [this] at hj
              cases hj
              exact ⟨by show fns.length = j; lia, List.mem_of_getElem? hpath, List.mem_of_getElem? hname⟩
          · intro t ht
            have := hgo ((true, (fns.length : Int)) :: t) (by
              rw [show 2 * size - k = (2 * size - (k + 1)) + 1 by lia, seqsFrom, if_pos hlt]
              refine List.mem_append_left _ (List.mem_map_of_mem ?_)
              simpa using ht)
            simpa using this
        · have hne := hb2 hb
          walk_at "w"
          walk_at "m"
          walk_at "w"
          refine ⟨st, _, rfl, hS, ?_⟩
          refine SE.tup rfl ?_
          walk_at "w"
          walk_at "m"
          walk_at "w"
          refine ⟨ru, _, rfl, hR, ?_⟩
          walk_at "w"
          refine SV2.div (by decide) (PyProof.noPylong_small (by decide)) ?_
          refine SE.len rfl rfl rfl ?_
          walk_at "w"
          refine op_len (.inr ⟨ru, rfl, hR⟩) (by rw [length_ints]; walk_at "lk") ?_
          rw [length_ints]
          have hpos : 0 < run.length := List.length_pos_iff.2 hne
          refine SV2.mod (by lia) ?_
          have hj : N / 2 % run.length < run.length := Nat.mod_lt _ hpos
          have fm : ((N : Int).fdiv 2).fmod (run.length : Int) = ((N / 2 % run.length : Nat) : Int) := by
            rw [Int.fdiv_eq_ediv_of_nonneg _ (by decide), Int.fmod_eq_emod_of_nonneg _ (by lia)]; rfl
          generalize hjj : N / 2 % run.length = j at hj fm
          have hgj : run[j]? = some run[j] := List.getElem?_eq_getElem hj
          refine ⟨_, .int run[j], j, by rw [← fm], hR, by rw [length_ints]; walk_at "lk", by unfold intsOf; rw [List.getElem?_map, hgj]; rfl, ?_⟩
          have hS1 : up H1 ru (.list ((intsOf run).eraseIdx j)) st = some (.list (steps.map stepAV)) := (up_ne _ _ hrs.symm).trans hS
          walk_at "w"
          refine ⟨_, hS1, by rw [List.length_map]; walk_at "lk", ?_⟩
          walk_at "w"
          refine hK _ _ ⟨(), by walk_at "sub", k + 1, steps ++ [(false, run[j])], fns, run.eraseIdx j, hds2, by lia, ?_, ?_, ?_, hD, hfl, ?_, by simp [hsl], ?_⟩
          · rw [up_self]; simp [stepAV]
          · rw [up_ne _ _ hfs, up_ne _ _ hrf.symm]; exact hF
          · rw [up_ne _ _ hrs, up_self]; congr 2
            have em : ∀ (l : List Int) (j : Nat), (l.map AV.int).eraseIdx j = (l.eraseIdx j).map AV.int := by
              intro l
              induction l with
              | nil => intro j; rfl
              | cons x l ih =>
                intro j
                cases j with
                | zero => rfl
                | succ j => rw [List.map_cons, List.eraseIdx_cons_succ, List.eraseIdx_cons_succ, List.map_cons, ih]
            exact em run j
          · rw [List.length_eraseIdx_of_lt hj]; lia
          · intro t ht
            have := hgo ((false, run[j]) :: t) (by
              rw [show 2 * size - k = (2 * size - (k + 1)) + 1 by lia, seqsFrom]
              refine List.mem_append_right _ (List.mem_flatMap.2 ⟨j, List.mem_range.2 hj, ?_⟩)
              rw [show run.getD j 0 = run[j] by simp [List.getD, hgj]]
              exact List.mem_map_of_mem ht)
            simpa using this
    · rintro _ H' ⟨k, steps, fns, run, hds, hk, hS, hF, hR, hD, hfl, hrun, hsl, hgo⟩
      have hk2 := range_end hds
      have hk3 : k = 2 * size := by lia
      subst hk3
      refine hK _ _ ⟨(), by walk_at "sub", steps, fns, hS, hF, ?_, hD, by lia⟩
      have := hgo [] (by rw [Nat.sub_self]; exact .head _)
      simpa using this
  · rintro _ H' ⟨steps, fns, h1, h2, h3, h4, h5⟩
    refine SS.cons (S1.ret (SE.tup rfl ?_))
    refine SEs.cons rfl (SE.leave ?_)
    walk_at "w"
    refine ⟨st, _, rfl, h1, ?_⟩
    refine SEs.cons rfl (SE.leave ?_)
    walk_at "w"
    refine ⟨fn, _, rfl, (by unfold del; rw [if_neg hfs]; exact h2), ?_⟩
    refine SEs.nil ?_
    exact q _ _ _ h3 h4 h5

theorem eqSteps : EqK (fun l : List (Bool × Int) => AV.lst (l.map stepAV)) 2 := EqK.lst (EqK.tup2 EqK.bool EqK.int)
theorem eqInts : EqK (fun l : List Int => AV.lst (intsOf l)) 1 := EqK.lst EqK.int
theorem eqShapes : EqK (fun l : List (List Int) => AV.lst (l.map shapeAV)) 2 := EqK.lst eqInts
theorem eqTold : EqK (fun l : List (Int × Int × Int) => AV.lst (l.map toldAV)) 2 := EqK.lst (EqK.tup3 EqK.int EqK.int EqK.int)
theorem eqRead : EqK (fun p : List (Bool × Int) × List Int => AV.tup [.lst (p.1.map stepAV), .lst (intsOf p.2)]) 3 := EqK.tup2 eqSteps ⟨eqInts.plain, eqInts.eqv, fun x => (eqInts.ok x).le (by decide)⟩
noncomputable def Turn : List (List (Int × Int)) → List (List Int) → Prop
  | [], [] => True
  | c :: cs, t :: ts => (∀ p < c.length, ∃ v, t[p]? = some v ∧ dget c p = some v) ∧ t.length = c.length ∧ c.length < 900 ∧ Turn cs ts
  | _, _ => False
noncomputable def trip : List Int → List (List Int) → List (Int × Int × Int)
  | d :: ds, s :: ss => (d, (s.take 1).sum, (s.length : Int)) :: trip ds ss
  | _, _ => []
noncomputable def swap3 (t : Int × Int × Int) : Int × Int × Int := (t.1, t.2.2, t.2.1)
structure LawOk (size : Nat) (steps : List (Bool × Int)) (turned : List (List Int)) (other : List (Bool × Int)) : Prop where
  len : 2 ≤ steps.length ∧ steps.length ≤ 20
  din : ∀ p ∈ steps, ∃ c : Nat, p.2 = c ∧ c < size
  shLen : (shapesL steps).length = steps.length + 1
  shB : ∀ s ∈ shapesL steps, s.length < 900 ∧ ∀ x ∈ s, 0 ≤ x ∧ x < 900
  cnt : (shapesL steps).map (fun s => ((colL s).map (·.2)).sum) = depthsFrom 0 steps
  turn : Turn ((shapesL steps).map colL) turned
  tLen : turned ≠ [] ∧ turned.length < 900
  tB : ∀ s ∈ turned, s.length < 900
  uo : unwindL turned = some other
  us : unwindL (shapesL steps) = some steps
  so : shapesL other = turned
  olen : 2 ≤ other.length ∧ other.length ≤ 20
  oin : ∀ p ∈ other, ∃ c : Nat, p.2 = c ∧ c < size
  dO : depthsFrom 0 other = depthsFrom 0 steps
  ok1 : okFL (flL true steps 0 []) (flL false steps 0 []) = true
  ok2 : okFL (flL true other 0 []) (flL false other 0 []) = true
  w1 : trip (depthsFrom 0 steps) (shapesL steps) = widestL steps
  w2 : widestL other = (widestL steps).map swap3

theorem depthsFrom_length : ∀ (ps : List (Bool × Int)) (d : Int), (depthsFrom d ps).length = ps.length + 1
  | [], d => rfl
  | p :: ps, d => by rw [depthsFrom, List.length_cons, depthsFrom_length ps]; rfl
theorem trip_drop : ∀ (ds : List Int) (ss : List (List Int)) (k : Nat) (d : Int) (s : List Int), ds[k]? = some d → ss[k]? = some s → (trip ds ss).drop k = (d, (s.take 1).sum, (s.length : Int)) :: (trip ds ss).drop (k + 1)
  | [], _, _, _, _, h, _ => by simp at h
  | _ :: _, [], _, _, _, _, h => by simp at h
  | a :: ds, b :: ss, 0, d, s, h1, h2 => by
    simp only [List.getElem?_cons_zero, Option.some.injEq] at h1 h2
    subst h1 h2
    rfl
  | a :: ds, b :: ss, k + 1, d, s, h1, h2 => by
    simp only [List.getElem?_cons_succ] at h1 h2
    rw [trip, List.drop_succ_cons, List.drop_succ_cons]
    exact trip_drop ds ss k d s h1 h2
theorem trip_length : ∀ (ds : List Int) (ss : List (List Int)), ds.length = ss.length → (trip ds ss).length = ss.length
  | [], [], _ => rfl
  | [], _ :: _, h => by cases h
  | _ :: _, [], h => by cases h
  | a :: ds, b :: ss, h => by rw [trip, List.length_cons, List.length_cons, trip_length ds ss (by simpa using h)]

noncomputable abbrev fLaw : Str := "law"
noncomputable abbrev FnLaw (G : GC) : Prop := Fn G fLaw ["script"] [] 1 (scAt 26) (bodyAt 26)
structure Fns (G : GC) : Prop where
  bl : FnBL G
  br : FnBR G
  il : FnIL G
  ir : FnIR G
  lp : FnLP G
  ls : FnLS G
  ac : FnAC G
  cc : FnCC G
  lc : FnLC G
  lu : FnLU G
  lw : FnLW G
  p2 : FnP2 G
  lx : FnLX G
  ss : FnSS G
  pd : FnPD G
  lr : FnLR G
  lt : FnLT G
  law : FnLaw G
  pat : PatOk G

theorem law_ok {G : GC} {n : Nat} {ns : List Int} (F : Fns G) (hz : ns.length < 900)
    (hP : ∀ size steps, size = 4 ∨ size = 5 → steps ∈ seqsFrom size (2 * size) 0 [] → ∃ turned other, LawOk size steps turned other)
    (hF : ∀ fns, DrawnFns fns → fns.length ≤ 5 → FnsOk fns) {Q : AV → HM → Prop} (q : ∀ H', Q (.bool true) H') : SC G (n + 5) fLaw [.lst (intsOf ns)] noH Q := by
  refine SC.of_body F.law ?_
  walk_at "b"
  refine SS.cons ?_
  walk_at "v"
  refine SE.callP F.lt.isFn ?_ rfl rfl
  walk_at "w"
  refine op_len (.inl rfl) (by rw [length_ints]; walk_at "lk") ?_
  rw [length_ints]
  walk_at "w"
  refine SV2.mod (by decide) ?_
  walk_at "w"
  have hsz : (4 : Int) + ((ns.length : Int).fmod ((2 : Nat) : Int)) = ((4 + ns.length % 2 : Nat) : Int) := by
    rw [Int.fmod_eq_emod_of_nonneg _ (by decide)]; rfl
  show SC G (n + 4) fLT [.lst (intsOf ns), .int (((4 : Nat) : Int) + (ns.length : Int).fmod ((2 : Nat) : Int))] noH _
  rw [show (((4 : Nat) : Int)) = 4 from rfl, hsz]
  have hs45 : 4 + ns.length % 2 = 4 ∨ 4 + ns.length % 2 = 5 := by lia
  generalize 4 + ns.length % 2 = size at hs45
  refine law_trace_ok F.lt hz (by lia) (by lia) fun drawn fns H1 hd hD hfl => ?_
  obtain ⟨turned, other, L⟩ := hP size drawn hs45 hd
  have hN := hF fns hD (by lia)
  obtain ⟨⟨hl1, hl2⟩, hdin, hshLen, hshB, hcnt, hturn, htLen, htB, huo, hus, hso, ⟨ho1, ho2⟩, hoin, hdO, hok1, hok2, hw1, hw2⟩ := L
  refine SA.tuple rfl rfl ⟨rfl, SA.name rfl ⟨rfl, SA.name rfl ?_⟩⟩
  refine SS.cons ?_
  walk_at "v"
  refine SE.callP F.lr.isFn ?_ rfl rfl
  walk_at "w"
  refine law_read_ok F.ss F.lx F.p2 F.pd F.pat F.lr hl2 hl1 hN (by lia) (fun p hp => by rw [hfl]; exact hdin p hp) fun H2 => ?_
  refine SA.tuple rfl rfl ⟨rfl, SA.name rfl ⟨rfl, SA.name rfl ?_⟩⟩
  refine SS.cons ?_
  walk_at "v"
  refine eqSteps.neS (by decide) rfl rfl rfl ⟨false, rfl, (fun e => nomatch e), fun _ => ?_⟩
  walk_at "v"
  refine SS.cons ?_
  walk_at "v"
  refine SE.callP F.ls.isFn ?_ rfl rfl
  walk_at "w"
  refine law_shapes_ok F.bl F.il F.lp F.ls (by lia) fun H3 => ?_
  walk_at "v"
  refine SS.weak (σ' := argsOf ["functions", "steps", "depths", "shapes"] [.lst (fns.map fnAV), .lst (drawn.map stepAV), .lst (intsOf (depthsFrom 0 drawn)), .lst ((shapesL drawn).map shapeAV)]) (H' := noH) (by walk_at "sub") (fun _ _ e => by cases e) ?_
  refine SS.cons (S1.assignCompL rfl rfl (SIt.list ?_))
  walk_at "w"
  refine ⟨_, rfl, ?_⟩
  refine CmpW.indK (fun ds ac H2 => Ex2 fun rest done => A4 (ds = rest.map shapeAV) (ac = done.map (fun s => AV.dct (colL s))) (done ++ rest = shapesL drawn) (H2 = noH)) ?_ ?_ _ [] _ ⟨shapesL drawn, [], rfl, rfl, rfl, rfl⟩
  · rintro d ds ac H2 ⟨rest, done, hds, rfl, hdone, rfl⟩ K hK
    cases rest with
    | nil => cases hds
    | cons s rest =>
    simp only [List.map_cons, List.cons.injEq] at hds
    obtain ⟨rfl, rfl⟩ := hds
    obtain ⟨hb1, hb2⟩ := hshB s (by rw [← hdone]; simp)
    have hle : done.length < (shapesL drawn).length := by rw [← hdone]; simp
    rw [hshLen] at hle
    refine ⟨_, rfl, STs.nil ⟨fun _ => ?_, fun e => nomatch e⟩⟩
    refine SE.callP F.lc.isFn ?_ rfl rfl
    walk_at "w"
    refine law_columns_ok F.ac F.lc hb1 hb2 fun H3 => ?_
    exact hK _ _ ⟨by rw [List.length_map]; walk_at "lk", rest, done ++ [s], rfl, by simp, by simpa using hdone, rfl⟩
  rintro ac H2 ⟨rest, done, hds, rfl, hdone, rfl⟩
  have : rest = [] := by cases rest with | nil => rfl | cons _ _ => cases hds
  subst this
  rw [List.append_nil] at hdone
  subst hdone
  intro D hD
  refine SS.freeze (x := "columns") rfl (up_self ..) ?_
  generalize hsh : shapesL drawn = shapes at *
  refine SS.weak (σ' := argsOf ["functions", "steps", "depths", "shapes", "columns"] [.lst (fns.map fnAV), .lst (drawn.map stepAV), .lst (intsOf (depthsFrom 0 drawn)), .lst (shapes.map shapeAV), .lst (shapes.map fun s => AV.dct (colL s))]) (H' := noH) (by walk_at "sub") (fun _ _ e => by cases e) ?_
  refine SS.cons ?_
  walk_at "v"
  refine SE.leave (SE.compL rfl (SIt.list ?_))
  walk_at "w"
  refine ⟨_, rfl, ?_⟩
  refine CmpW.indK (fun ds ac H2 => Ex2 fun rest done => A4 (ds = rest.map (fun s => AV.dct (colL s))) (ac = intsOf (done.map fun s => ((colL s).map (·.2)).sum)) (done ++ rest = shapes) (H2 = noH)) ?_ ?_ _ [] _ ⟨shapes, [], rfl, rfl, rfl, rfl⟩
  · rintro d ds ac H2 ⟨rest, done, hds, rfl, hdone, rfl⟩ K hK
    cases rest with
    | nil => cases hds
    | cons s rest =>
    simp only [List.map_cons, List.cons.injEq] at hds
    obtain ⟨rfl, rfl⟩ := hds
    have hle : done.length < shapes.length := by rw [← hdone]; simp
    have h9 := hshLen
    refine ⟨_, rfl, STs.nil ⟨fun _ => ?_, fun e => nomatch e⟩⟩
    refine SE.callP F.cc.isFn ?_ rfl rfl
    walk_at "w"
    refine count_calls_ok F.cc fun H3 => ?_
    exact hK _ _ ⟨by rw [length_ints, List.length_map]; walk_at "lk", rest, done ++ [s], rfl, by simp [intsOf], by simpa using hdone, rfl⟩
  rintro ac H2 ⟨rest, done, hds, rfl, hdone, rfl⟩
  have : rest = [] := by cases rest with | nil => rfl | cons _ _ => cases hds
  subst this
  rw [List.append_nil] at hdone
  subst hdone
  intro D2 hD2
  refine ⟨D2, _, rfl, up_self .., ?_⟩
  rw [del_up_none _ hD2]
  walk_at "v"
  refine eqInts.neS (by decide) rfl rfl hcnt ⟨false, rfl, (fun e => nomatch e), fun _ => ?_⟩
  walk_at "v"
  -- turned
  refine SS.cons (S1.assignCompL rfl rfl (SIt.list ?_))
  walk_at "w"
  refine ⟨_, rfl, ?_⟩
  refine CmpW.indK (fun ds ac H2 => Ex3 fun rest tr td => A5 (ds = rest.map (fun s => AV.dct (colL s))) (ac = td.map shapeAV) (Turn (rest.map colL) tr) (td ++ tr = turned) (H2 = noH)) ?_ ?_ _ [] _ ⟨done, turned, [], rfl, rfl, hturn, rfl, rfl⟩
  · rintro d ds ac H2 ⟨rest, tr, td, hds, rfl, hT, htd, rfl⟩ K hK
    cases rest with
    | nil => cases hds
    | cons s rest =>
    simp only [List.map_cons, List.cons.injEq] at hds
    obtain ⟨rfl, rfl⟩ := hds
    cases tr with
    | nil => exact hT.elim
    | cons t tr =>
    obtain ⟨hp, htl, htz, hT⟩ := hT
    have hle : td.length < turned.length := by rw [← htd]; simp
    have h9 := htLen.2
    refine ⟨_, rfl, STs.nil ⟨fun _ => ?_, fun e => nomatch e⟩⟩
    refine SE.leave (SE.compL rfl (SIt.range rfl rfl rfl ?_))
    walk_at "w"
    refine op_dlen (.inl rfl) (by walk_at "lk") ?_
    refine ⟨_, rfl, by walk_at "lk", ?_⟩
    refine CmpW.indK (fun ds ac H2 => Ex1 fun j => A4 (ds = ((List.range (colL s).length).drop j).map (fun (i : Nat) => AV.int (i : Int))) (j ≤ (colL s).length) (ac = intsOf (t.take j)) (H2 = noH)) ?_ ?_ _ [] _ ⟨0, rfl, Nat.zero_le _, rfl, rfl⟩
    · rintro d ds ac H2 ⟨j, hds, hj, rfl, rfl⟩ K hK
      obtain ⟨hj2, rfl, hds2⟩ := range_next hds
      obtain ⟨v, hv1, hv2⟩ := hp j hj2
      refine ⟨_, rfl, STs.nil ⟨fun _ => ?_, fun e => nomatch e⟩⟩
      refine SE.dictItem ?_
      walk_at "w"
      refine ⟨_, _, v, .inl rfl, rfl, hv2, ?_⟩
      refine hK _ _ ⟨by rw [length_ints, List.length_take]; walk_at "lk", j + 1, hds2, hj2, ?_, rfl⟩
      rw [List.take_add_one, hv1]; simp [intsOf]
    · rintro ac H2 ⟨j, hds, hj, rfl, rfl⟩
      have hj2 := range_end hds
      intro D3 hD3
      refine ⟨D3, _, rfl, up_self .., ?_⟩
      rw [del_up_none _ hD3, List.take_of_length_le (by lia)]
      exact hK _ _ ⟨by rw [List.length_map]; walk_at "lk", rest, tr, td ++ [t], rfl, by simp [shapeAV], hT, by simpa using htd, rfl⟩
  rintro ac H2 ⟨rest, tr, td, hds, rfl, hT, htd, rfl⟩
  have : rest = [] := by cases rest with | nil => rfl | cons _ _ => cases hds
  subst this
  have : tr = [] := by cases tr with | nil => rfl | cons _ _ => exact hT.elim
  subst this
  rw [List.append_nil] at htd
  subst htd
  intro D3 hD3
  refine SS.freeze (x := "turned") rfl (up_self ..) ?_
  refine SS.weak (σ' := argsOf ["functions", "steps", "depths", "shapes", "turned"] [.lst (fns.map fnAV), .lst (drawn.map stepAV), .lst (intsOf (depthsFrom 0 drawn)), .lst (done.map shapeAV), .lst (td.map shapeAV)]) (H' := noH) (by walk_at "sub") (fun _ _ e => by cases e) ?_
  refine SS.cons ?_
  walk_at "v"
  refine SE.callP F.lu.isFn ?_ rfl rfl
  walk_at "w"
  refine law_unwind_ok F.br F.ir F.lu htLen.1 htLen.2 htB huo fun H3 => ?_
  walk_at "v"
  refine SS.cons ?_
  walk_at "v"
  refine SE.callP F.lu.isFn ?_ rfl rfl
  walk_at "w"
  refine law_unwind_ok F.br F.ir F.lu (by intro e; rw [e] at hshLen; simp at hshLen) (by lia) (fun s hs => (hshB s hs).1) hus fun H3 => ?_
  walk_at "v"
  refine eqSteps.neS (by decide) rfl rfl rfl ⟨false, rfl, (fun e => nomatch e), fun _ => ?_⟩
  walk_at "v"
  refine SE.callP F.ls.isFn ?_ rfl rfl
  walk_at "w"
  refine law_shapes_ok F.bl F.il F.lp F.ls (by lia) fun H3 => ?_
  walk_at "v"
  refine eqShapes.neS (by decide) rfl rfl hso ⟨false, rfl, (fun e => nomatch e), fun _ => ?_⟩
  walk_at "v"
  refine ⟨(fun e => nomatch e), fun _ => ?_⟩
  walk_at "v"
  refine SS.cons ?_
  walk_at "v"
  refine SE.callP F.lr.isFn ?_ rfl rfl
  walk_at "w"
  refine law_read_ok F.ss F.lx F.p2 F.pd F.pat F.lr ho2 ho1 hN (by lia) (fun p hp => by rw [hfl]; exact hoin p hp) fun H2 => ?_
  walk_at "v"
  refine eqRead.neS (x := (other, depthsFrom 0 other)) (y := (other, depthsFrom 0 drawn)) (by decide) rfl rfl (by rw [hdO]) ⟨false, rfl, (fun e => nomatch e), fun _ => ?_⟩
  walk_at "v"
  refine SS.cons ?_
  walk_at "v"
  refine SE.callP F.lw.isFn ?_ rfl rfl
  walk_at "w"
  refine law_widest_ok F.lw (by lia) hok1 fun H3 => ?_
  walk_at "v"
  refine SS.weak (σ' := argsOf ["depths", "shapes", "other", "wide"] [.lst (intsOf (depthsFrom 0 drawn)), .lst (done.map shapeAV), .lst (other.map stepAV), .lst ((widestL drawn).map toldAV)]) (H' := noH) (by walk_at "sub") (fun _ _ e => by cases e) ?_
  refine SS.cons ?_
  walk_at "v"
  refine SE.leave (SE.compL rfl (SIt.range rfl rfl rfl ?_))
  walk_at "w"
  refine op_len (.inl rfl) (by rw [List.length_map]; walk_at "lk") ?_
  rw [List.length_map]
  refine ⟨_, rfl, by walk_at "lk", ?_⟩
  have hdl := depthsFrom_length drawn 0
  have htr := trip_length (depthsFrom 0 drawn) done (by lia)
  refine CmpW.indK (fun ds ac H2 => Ex2 fun j dn => A5 (ds = ((List.range done.length).drop j).map (fun (i : Nat) => AV.int (i : Int))) (ac = dn.map toldAV) (dn.length = j) (dn ++ (trip (depthsFrom 0 drawn) done).drop j = trip (depthsFrom 0 drawn) done) (H2 = noH)) ?_ ?_ _ [] _ ⟨0, [], rfl, rfl, rfl, rfl, rfl⟩
  · rintro d ds ac H2 ⟨j, dn, hds, rfl, hdl2, hdn, rfl⟩ K hK
    obtain ⟨hj2, rfl, hds2⟩ := range_next hds
    have hgs : done[j]? = some done[j] := List.getElem?_eq_getElem hj2
    have hgd : (depthsFrom 0 drawn)[j]? = some ((depthsFrom 0 drawn)[j]'(by lia)) := List.getElem?_eq_getElem (by lia)
    rw [trip_drop _ _ _ _ _ hgd hgs] at hdn
    have hsb := hshB _ (List.getElem_mem hj2)
    generalize (depthsFrom 0 drawn)[j]'(by lia) = dj at hgd hdn
    generalize done[j] = sj at hgs hdn hsb
    refine ⟨_, rfl, STs.nil ⟨fun _ => ?_, fun e => nomatch e⟩⟩
    walk_at "w"
    refine SE.item ?_
    walk_at "w"
    refine ⟨_, .int dj, j, .inl rfl, rfl, by walk_at "lk", by unfold intsOf; rw [List.getElem?_map, hgd]; rfl, ?_⟩
    walk_at "w"
    refine SE.cutTo ?_
    refine SE.item ?_
    walk_at "w"
    refine ⟨_, shapeAV sj, j, .inl rfl, rfl, by walk_at "lk", by rw [List.getElem?_map, hgs]; rfl, ?_⟩
    walk_at "w"
    refine ⟨_, 1, .inl rfl, rfl, by rw [length_ints]; walk_at "lk", ?_⟩
    refine op_sum (ns := sj.take 1) (.inl (by unfold intsOf; rw [List.map_take])) ?_
    walk_at "w"
    refine SE.item ?_
    walk_at "w"
    refine ⟨_, shapeAV sj, j, .inl rfl, rfl, by walk_at "lk", by rw [List.getElem?_map, hgs]; rfl, ?_⟩
    refine op_len (.inl rfl) (by rw [length_ints]; walk_at "lk") ?_
    rw [length_ints]
    walk_at "w"
    exact hK _ _ ⟨by rw [List.length_map]; walk_at "lk", j + 1, dn ++ [(dj, (sj.take 1).sum, (sj.length : Int))], hds2, by simp [toldAV], by simp [hdl2], by simpa using hdn, rfl⟩
  rintro ac H2 ⟨j, dn, hds, rfl, hdl2, hdn, rfl⟩
  have hj2 := range_end hds
  rw [List.drop_eq_nil_of_le (by lia), List.append_nil] at hdn
  subst hdn
  intro D4 hD4
  refine ⟨D4, _, rfl, up_self .., ?_⟩
  rw [del_up_none _ hD4]
  walk_at "v"
  refine eqTold.neS (by decide) rfl rfl hw1 ⟨false, rfl, (fun e => nomatch e), fun _ => ?_⟩
  walk_at "v"
  refine SS.cons ?_
  walk_at "v"
  refine SE.callP F.lw.isFn ?_ rfl rfl
  walk_at "w"
  refine law_widest_ok F.lw (by lia) hok2 fun H3 => ?_
  walk_at "w"
  refine SE.leave (SE.compL rfl (SIt.list ?_))
  walk_at "w"
  refine ⟨_, rfl, ?_⟩
  refine CmpW.indK (fun ds ac H2 => Ex2 fun rest done => A4 (ds = rest.map toldAV) (ac = (done.map swap3).map toldAV) (done ++ rest = widestL drawn) (H2 = noH)) ?_ ?_ _ [] _ ⟨widestL drawn, [], rfl, rfl, rfl, rfl⟩
  · rintro d ds ac H2 ⟨rest, done, hds, rfl, hdone, rfl⟩ K hK
    cases rest with
    | nil => cases hds
    | cons s rest =>
    simp only [List.map_cons, List.cons.injEq] at hds
    obtain ⟨rfl, rfl⟩ := hds
    have hle : done.length < (widestL drawn).length := by rw [← hdone]; simp
    have hwl : (widestL drawn).length = drawn.length + 1 := by unfold widestL; simp
    obtain ⟨s1, s2, s3⟩ := s
    refine ⟨_, rfl, STs.nil ⟨fun _ => ?_, fun e => nomatch e⟩⟩
    walk_at "w"
    exact hK _ _ ⟨by rw [List.length_map, List.length_map]; walk_at "lk", rest, done ++ [(s1, s2, s3)], rfl, by simp [toldAV, swap3], by simpa using hdone, rfl⟩
  rintro ac H2 ⟨rest, dn2, hds, rfl, hdone, rfl⟩
  have : rest = [] := by cases rest with | nil => rfl | cons _ _ => cases hds
  subst this
  rw [List.append_nil] at hdone
  subst hdone
  intro D5 hD5
  refine ⟨D5, _, rfl, up_self .., ?_⟩
  rw [del_up_none _ hD5]
  refine eqTold.eqS (by decide) rfl rfl hw2 ?_
  exact q _

noncomputable def fdIn (K : Frag) (f : Str) : Option (Addr × FuncData) := match nsIn K mainGlobals f with
  | some (some (.ref a)) => (match K.lookup a with
      | some ⟨_, _, .func fd, _⟩ => some (a, fd)
      | _ => none)
  | _ => none
theorem fn_of_in {G : GC} {K : Frag} (X : K.In G.h₀) (g : G.h₀.Ns mainGlobals G.mg) {f : Str} {names : List Str} {dds : List AV} {k : Nat} {sc : Scope} {body : List Stmt}
    (h1 : (fdIn K f).map (fun p => p.2.body) = some (.stmts body)) (h2 : (fdIn K f).map (fun p => p.2.scope) = some sc) (h3 : (fdIn K f).map (fun p => p.2.closure) = some []) (h4 : (fdIn K f).map (fun p => p.2.globals) = some mainGlobals)
    (h5 : (fdIn K f).map (fun p => p.2.builtins) = some builtinsNs) (h6 : (fdIn K f).map (fun p => codeIn K p.2.code p.2.qualname) = some true) (dvals : List Value)
    (h7 : ∀ fz, VL fz dds dvals) (h8 : ∀ vs : List Value, vs.length = k → ∀ S, (fdIn K f).map (fun p => peek K S (bindArgs p.2 ⟨vs, []⟩)) = some (some (names.zip (vs ++ dvals)))) : Fn G f names dds k sc body := by
  cases e : fdIn K f with
  | none => rw [e] at h1; cases h1
  | some p =>
    obtain ⟨a, fd⟩ := p
    simp only [e, Option.map_some, Option.some.injEq] at h1 h2 h3 h4 h5 h6 h8
    unfold fdIn at e
    split at e
    · rename_i a' hns
      split at e
      · rename_i ho
        cases e
        exact ⟨_, _, _, dvals, mg_of X g hns, X _ _ ho, rfl, h1, h2, h3, h4, h5, codeRec_of X h6, h7, fun s vs hk hl M A E Q q => (Looks.of_peek (M := M) (X.keeps hk) (h8 vs hl _)).here q⟩
      · cases e
    · cases e
theorem vals0 : ∀ fz, VL fz [] [] := fun _ => by simp only [VL]
theorem vals1 : ∀ fz, VL fz [.none] [.none] := fun _ => by simp only [VL, V]; exact ⟨_, _, rfl, rfl, rfl⟩
theorem vals3 (t : Tok) : ∀ fz, VL fz [.int 0, .none, .none] [.int 0 t, .none, .none] := fun _ => by
  simp only [VL, V]; exact ⟨_, _, rfl, ⟨t, rfl⟩, _, _, rfl, rfl, _, _, rfl, rfl, rfl⟩
theorem lenS {n : Nat} {vs : List Value} (h : vs.length = n + 1) : ∃ a r, vs = a :: r ∧ r.length = n := by
  cases vs with
  | nil => cases h
  | cons a r => exact ⟨a, r, rfl, Nat.succ.inj h⟩
theorem len2 {vs : List Value} (h : vs.length = 2) : ∃ a b, vs = [a, b] := by
  obtain ⟨a, r, rfl, k⟩ := lenS h
  obtain ⟨b, rfl⟩ := List.length_eq_one_iff.mp k
  exact ⟨a, b, rfl⟩
theorem len3 {vs : List Value} (h : vs.length = 3) : ∃ a b c, vs = [a, b, c] := by
  obtain ⟨a, r, rfl, k⟩ := lenS h
  obtain ⟨b, c, rfl⟩ := len2 k
  exact ⟨a, b, c, rfl⟩
theorem len4 {vs : List Value} (h : vs.length = 4) : ∃ a b c d, vs = [a, b, c, d] := by
  obtain ⟨a, r, rfl, k⟩ := lenS h
  obtain ⟨b, c, d, rfl⟩ := len3 k
  exact ⟨a, b, c, d, rfl⟩
section
variable {w : World} {G : GC} (X : (hd.heap_39 w.params).In G.h₀) (g : G.h₀.Ns mainGlobals G.mg)
include X g
theorem fnBL : FnBL G := fn_of_in X g rfl rfl rfl rfl rfl rfl _ vals1 (fun vs h => by obtain ⟨_, _, _, _, rfl⟩ := len4 h; exact fun _ => rfl)
theorem fnBR : FnBR G := fn_of_in X g rfl rfl rfl rfl rfl rfl _ vals1 (fun vs h => by obtain ⟨_, _, _, _, rfl⟩ := len4 h; exact fun _ => rfl)
theorem fnIL : FnIL G := fn_of_in X g rfl rfl rfl rfl rfl rfl _ (vals3 366) (fun vs h => by obtain ⟨_, _, rfl⟩ := len2 h; exact fun _ => rfl)
theorem fnIR : FnIR G := fn_of_in X g rfl rfl rfl rfl rfl rfl _ (vals3 339) (fun vs h => by obtain ⟨_, _, rfl⟩ := len2 h; exact fun _ => rfl)
theorem fnLP : FnLP G := fn_of_in X g rfl rfl rfl rfl rfl rfl [] vals0 (fun vs h => by obtain ⟨_, _, rfl⟩ := len2 h; exact fun _ => rfl)
theorem fnLS : FnLS G := fn_of_in X g rfl rfl rfl rfl rfl rfl [] vals0 (fun vs h => by obtain ⟨_, rfl⟩ := List.length_eq_one_iff.mp h; exact fun _ => rfl)
theorem fnAC : FnAC G := fn_of_in X g rfl rfl rfl rfl rfl rfl [] vals0 (fun vs h => by obtain ⟨_, _, rfl⟩ := len2 h; exact fun _ => rfl)
theorem fnCC : FnCC G := fn_of_in X g rfl rfl rfl rfl rfl rfl [] vals0 (fun vs h => by obtain ⟨_, rfl⟩ := List.length_eq_one_iff.mp h; exact fun _ => rfl)
theorem fnLC : FnLC G := fn_of_in X g rfl rfl rfl rfl rfl rfl [] vals0 (fun vs h => by obtain ⟨_, rfl⟩ := List.length_eq_one_iff.mp h; exact fun _ => rfl)
theorem fnLU : FnLU G := fn_of_in X g rfl rfl rfl rfl rfl rfl [] vals0 (fun vs h => by obtain ⟨_, rfl⟩ := List.length_eq_one_iff.mp h; exact fun _ => rfl)
theorem fnLW : FnLW G := fn_of_in X g rfl rfl rfl rfl rfl rfl [] vals0 (fun vs h => by obtain ⟨_, rfl⟩ := List.length_eq_one_iff.mp h; exact fun _ => rfl)
theorem fnP2 : FnP2 G := fn_of_in X g rfl rfl rfl rfl rfl rfl [] vals0 (fun vs h => by obtain ⟨_, rfl⟩ := List.length_eq_one_iff.mp h; exact fun _ => rfl)
theorem fnLX : FnLX G := fn_of_in X g rfl rfl rfl rfl rfl rfl [] vals0 (fun vs h => by obtain ⟨_, _, _, rfl⟩ := len3 h; exact fun _ => rfl)
theorem fnSS : FnSS G := fn_of_in X g rfl rfl rfl rfl rfl rfl [] vals0 (fun vs h => by obtain ⟨_, rfl⟩ := List.length_eq_one_iff.mp h; exact fun _ => rfl)
theorem fnPD : FnPD G := fn_of_in X g rfl rfl rfl rfl rfl rfl [] vals0 (fun vs h => by obtain ⟨_, _, rfl⟩ := len2 h; exact fun _ => rfl)
theorem fnLR : FnLR G := fn_of_in X g rfl rfl rfl rfl rfl rfl [] vals0 (fun vs h => by obtain ⟨_, _, rfl⟩ := len2 h; exact fun _ => rfl)
theorem fnLT : FnLT G := fn_of_in X g rfl rfl rfl rfl rfl rfl [] vals0 (fun vs h => by obtain ⟨_, _, rfl⟩ := len2 h; exact fun _ => rfl)
theorem fnLaw : FnLaw G := fn_of_in X g rfl rfl rfl rfl rfl rfl [] vals0 (fun vs h => by obtain ⟨_, rfl⟩ := List.length_eq_one_iff.mp h; exact fun _ => rfl)
theorem patOk : PatOk G := ⟨36, mg_of X g rfl, ⟨_, _, _, _, _, _, X _ _ rfl, rfl, rfl, rfl, rfl, rfl, X _ _ rfl, rfl, by decide +kernel⟩, fun o h => by
  have h2 := X 36 _ rfl
  rw [h] at h2
  cases h2
  rfl⟩
theorem fnsOf : Fns G := ⟨fnBL X g, fnBR X g, fnIL X g, fnIR X g, fnLP X g, fnLS X g, fnAC X g, fnCC X g, fnLC X g, fnLU X g, fnLW X g, fnP2 X g, fnLX X g, fnSS X g, fnPD X g, fnLR X g, fnLT X g, fnLaw X g, patOk X g⟩
theorem freeOf_in : ∀ x ∈ (["len", "sum", "range", "reversed", "max", "isinstance", "str", "tuple"] : List Str), G.mg x = none := by
  intro x hx
  simp only [List.mem_cons, List.not_mem_nil, or_false] at hx
  rcases hx with rfl | rfl | rfl | rfl | rfl | rfl | rfl | rfl <;> exact mg_none_of X g rfl
end

/-! the hundred functions of a trace -/
noncomputable def pick : List Nat → Nat → (Nat → Bool) → Bool
  | [], _, _ => false
  | a :: r, c, k => match Nat.beq c a with
    | true => k a
    | false => pick r c k
theorem pick_true : ∀ {A : List Nat} {c : Nat} {k : Nat → Bool}, pick A c k = true → k c = true
  | a :: r, c, k, h => by
    unfold pick at h
    split at h
    · rename_i e; rw [Nat.eq_of_beq_eq_true e]; exact h
    · exact pick_true h
noncomputable def forceL (A : List Nat) : List Nat → (List Nat → Bool) → Bool
  | [], k => k []
  | c :: r, k => pick A c fun c' => forceL A r fun r' => k (c' :: r')
theorem forceL_true {A : List Nat} : ∀ {l : List Nat} {k : List Nat → Bool}, forceL A l k = true → k l = true
  | [], _, h => h
  | c :: r, k, h => by
    unfold forceL at h
    exact forceL_true (k := fun r' => k (c :: r')) (pick_true h)
noncomputable def eqNL : List Nat → List Nat → Bool
  | [], [] => true
  | a :: l, b :: m => Nat.beq a b && eqNL l m
  | _, _ => false
theorem eqNL_true : ∀ {l m : List Nat}, eqNL l m = true → l = m
  | [], [], _ => rfl
  | a :: l, b :: m, h => by
    unfold eqNL at h
    rw [Bool.and_eq_true] at h
    rw [Nat.eq_of_beq_eq_true h.1, eqNL_true h.2]
  | [], _ :: _, h => by cases h
  | _ :: _, [], h => by cases h
noncomputable def abc : List Nat := [34, 40, 41, 58, 97, 98, 102, 103, 104, 48, 49, 50, 51, 52, 60, 62, 123, 125, 126]
noncomputable def leftB (b : Bool) (p : List Nat) : Bool := match Rx.loopP 40 p.toArray 0 0 false [] with
  | none => false
  | some ps => (decide (1 ≤ ps.length) && decide ((PySem.Builtin.Bytes.joined #[] ps).size ≤ sizeLine) && !PySem.Builtin.Bytes.tooLong (ps.toArray.foldl (· + ·.size) ((#[] : Array UInt8).size * (ps.toArray.size - 1)))) && decide (p.length ≤ 1000) && (PySem.Builtin.Bytes.joined #[] ps == #[if b then 40 else 41])
noncomputable def tokB (b : Bool) (t : List Nat) : Bool := forceL abc (pieceL b t) fun p => (p.all fun c => Nat.blt c 128) && leftB b p
theorem encB_low {p : List Nat} (h : ∀ c ∈ p, c < 128) : Rx.encB (S p) = (p.map fun c => c.toUInt8).toArray := by
  unfold Rx.encB S
  simp only [Array.extract_size]
  have : ∀ (p : List Nat) (acc : Array UInt8), (∀ c ∈ p, c < 128) → p.toArray.foldl (fun acc y => acc ++ (Str.utf8Of y).toArray) acc = acc ++ (p.map fun c => c.toUInt8).toArray := by
    intro p
    induction p with
    | nil => intro acc _; simp
    | cons c p ih =>
      intro acc h
      have hc : Str.utf8Of c = [c.toUInt8] := by unfold Str.utf8Of; rw [if_pos (h c (.head _))]
      have := ih (acc ++ (Str.utf8Of c).toArray) fun d hd => h d (.tail _ hd)
      simp only [List.foldl_toArray, List.foldl_cons] at this ⊢
      rw [this, hc, Array.append_assoc]
      simp
  simpa using this p #[] h
theorem tokB_true {b : Bool} {f : Str × Nat × Str} (h : tokB b (txt f) = true) : okTok b f = true := by
  unfold tokB at h
  have h := forceL_true h
  unfold okTok
  generalize pieceL b (txt f) = p at h
  rw [Bool.and_eq_true] at h
  obtain ⟨h1, h2⟩ := h
  have hlow : ∀ c ∈ p, c < 128 := fun c hc => Nat.blt_eq.mp (List.all_eq_true.mp h1 c hc)
  have henc := encB_low hlow
  have hmap : (Rx.encB (S p)).map (·.toNat) = p.toArray := by
    rw [henc]
    simp only [List.map_toArray, List.map_map]
    congr 1
    refine (List.map_congr_left fun c hc => ?_).trans (List.map_id p)
    have := hlow c hc
    show c.toUInt8.toNat = c
    simp only [Nat.toUInt8, UInt8.toNat_ofNat']
    lia
  have hsz : (Rx.encB (S p)).size = p.length := by rw [henc]; simp
  unfold leftB at h2
  have hsur : ((S p).cps.findIdx? Str.isSurrogate).isNone = true := by
    rw [Option.isNone_iff_eq_none, Array.findIdx?_eq_none_iff]
    intro c hc
    have := hlow c (by simpa [S] using hc)
    unfold Str.isSurrogate
    rw [Bool.and_eq_false_iff]
    left
    exact decide_eq_false (by lia)
  split at h2
  · cases h2
  · rename_i ps e
    simp only [Bool.and_eq_true, decide_eq_true_eq, Bool.not_eq_true', beq_iff_eq] at h2
    obtain ⟨⟨⟨⟨c1, c2⟩, c3⟩, c4⟩, c5⟩ := h2
    have hl : Rx.left (Rx.encB (S p)) = some #[if b then 40 else 41] := by
      unfold Rx.left
      rw [hmap, e]
      dsimp only
      rw [if_pos (by simp only [Bool.and_eq_true, decide_eq_true_eq, Bool.not_eq_true']; exact ⟨⟨⟨c1, c2⟩, c3⟩, by lia⟩), c5]
    rw [hsur, hl]
    simp only [Bool.true_and, beq_self_eq_true, Bool.and_true, decide_eq_true_eq]
    lia
noncomputable def chkF (f : Str × Nat × Str) : Bool := forceL abc (txt f) fun t =>
  (forceL abc (lawText f.1 f.2.1 f.2.2).cps.toList fun u => eqNL u t) && (forceL abc (replS (S t) (S [34]) (S [34, 34])).cps.toList fun u => eqNL u (dbl t)) &&
  !Builtin.Str.tooLong ((S t).length + (Builtin.Str.occurrences (S t) (S [34]) 0 (S t).length ((S t).length + 1)).length * 2) && Nat.blt t.length 100 && Nat.blt f.1.length 1000 && Nat.blt f.2.2.length 1000 &&
  Nat.blt (StrLaws.sliceText f.2.2 (some 1) (some (-1))).length 1000 && PyData.canLay0 (.str f.1) && PyData.canLay0 (.str (S t)) && Nat.blt f.2.1 10 && tokB true t && tokB false t
theorem S_cps (x : Str) : S x.cps.toList = x := by simp [S]
theorem chkF_true {f : Str × Nat × Str} (h : chkF f = true) : okF1 f = true := by
  unfold chkF at h
  have h := forceL_true h
  unfold okF1
  simp only [Bool.and_eq_true, Nat.blt_eq] at h
  obtain ⟨⟨⟨⟨⟨⟨⟨⟨⟨⟨⟨o1, o2⟩, o3⟩, o4⟩, o5⟩, o6⟩, o7⟩, o8⟩, o9⟩, o10⟩, o11⟩, o12⟩ := h
  have e1 : lawText f.1 f.2.1 f.2.2 = S (txt f) := by rw [← S_cps (lawText f.1 f.2.1 f.2.2), eqNL_true (forceL_true (k := fun u => eqNL u (txt f)) o1)]
  have e2 : replS (S (txt f)) (S [34]) (S [34, 34]) = S (dbl (txt f)) := by rw [← S_cps (replS (S (txt f)) (S [34]) (S [34, 34])), eqNL_true (forceL_true (k := fun u => eqNL u (dbl (txt f))) o2)]
  simp only [Bool.and_eq_true, decide_eq_true_eq, beq_iff_eq]
  exact ⟨⟨⟨⟨⟨⟨⟨⟨⟨⟨⟨e1, e2⟩, o3⟩, o4⟩, o5⟩, o6⟩, o7⟩, o8⟩, o9⟩, o10⟩, tokB_true o11⟩, tokB_true o12⟩
noncomputable def chkP (p : Str) (k : Nat) : Bool := theNames.all fun n => chkF (p, k, n)
theorem pp00 : chkP (S [126]) 0 = true := by decide +kernel
theorem pp01 : chkP (S [126]) 1 = true := by decide +kernel
theorem pp02 : chkP (S [126]) 2 = true := by decide +kernel
theorem pp03 : chkP (S [126]) 3 = true := by decide +kernel
theorem pp04 : chkP (S [126]) 4 = true := by decide +kernel
theorem pp10 : chkP (S [97, 34]) 0 = true := by decide +kernel
theorem pp11 : chkP (S [97, 34]) 1 = true := by decide +kernel
theorem pp12 : chkP (S [97, 34]) 2 = true := by decide +kernel
theorem pp13 : chkP (S [97, 34]) 3 = true := by decide +kernel
theorem pp14 : chkP (S [97, 34]) 4 = true := by decide +kernel
theorem pp20 : chkP (S [40, 98]) 0 = true := by decide +kernel
theorem pp21 : chkP (S [40, 98]) 1 = true := by decide +kernel
theorem pp22 : chkP (S [40, 98]) 2 = true := by decide +kernel
theorem pp23 : chkP (S [40, 98]) 3 = true := by decide +kernel
theorem pp24 : chkP (S [40, 98]) 4 = true := by decide +kernel
theorem pp30 : chkP (S [34, 41]) 0 = true := by decide +kernel
theorem pp31 : chkP (S [34, 41]) 1 = true := by decide +kernel
theorem pp32 : chkP (S [34, 41]) 2 = true := by decide +kernel
theorem pp33 : chkP (S [34, 41]) 3 = true := by decide +kernel
theorem pp34 : chkP (S [34, 41]) 4 = true := by decide +kernel
theorem pp40 : chkP (S []) 0 = true := by decide +kernel
theorem pp41 : chkP (S []) 1 = true := by decide +kernel
theorem pp42 : chkP (S []) 2 = true := by decide +kernel
theorem pp43 : chkP (S []) 3 = true := by decide +kernel
theorem pp44 : chkP (S []) 4 = true := by decide +kernel
theorem chk_all {p : Str} {k : Nat} {n : Str} (hk : k < 5) (hp : p ∈ thePaths) (hn : n ∈ theNames) : okF1 (p, k, n) = true := by
  have h : chkP p k = true := by
    unfold thePaths at hp
    simp only [List.mem_cons, List.not_mem_nil, or_false] at hp
    have hk5 : k = 0 ∨ k = 1 ∨ k = 2 ∨ k = 3 ∨ k = 4 := by lia
    rcases hp with rfl | rfl | rfl | rfl | rfl <;> rcases hk5 with rfl | rfl | rfl | rfl | rfl
    · exact pp00
    · exact pp01
    · exact pp02
    · exact pp03
    · exact pp04
    · exact pp10
    · exact pp11
    · exact pp12
    · exact pp13
    · exact pp14
    · exact pp20
    · exact pp21
    · exact pp22
    · exact pp23
    · exact pp24
    · exact pp30
    · exact pp31
    · exact pp32
    · exact pp33
    · exact pp34
    · exact pp40
    · exact pp41
    · exact pp42
    · exact pp43
    · exact pp44
  exact chkF_true (List.all_eq_true.mp h n hn)
noncomputable def digOf (t : List Nat) : Nat := match t.find? fun c => Nat.ble 48 c && Nat.ble c 57 with
  | some c => c - 48
  | none => 0
theorem dig_all : (thePaths.all fun p => theNames.all fun n => (List.range 5).all fun k => Nat.beq (digOf (txt (p, k, n))) k) = true := by decide +kernel
theorem dig_ok {f : Str × Nat × Str} (hk : f.2.1 < 5) (hp : f.1 ∈ thePaths) (hn : f.2.2 ∈ theNames) : digOf (txt f) = f.2.1 :=
  Nat.eq_of_beq_eq_true (List.all_eq_true.mp (List.all_eq_true.mp (List.all_eq_true.mp dig_all f.1 hp) f.2.2 hn) f.2.1 (List.mem_range.mpr hk))
theorem fns_ok {fns : List (Str × Nat × Str)} (h : DrawnFns fns) (hl : fns.length ≤ 5) : FnsOk fns := by
  have hk : ∀ (k : Nat) f, fns[k]? = some f → f.2.1 = k ∧ f.2.1 < 5 ∧ f.1 ∈ thePaths ∧ f.2.2 ∈ theNames := fun k f e => by
    obtain ⟨h1, h2, h3⟩ := h.at_ k f e
    have := (List.getElem?_eq_some_iff.mp e).1
    exact ⟨h1, by lia, h2, h3⟩
  refine ⟨fun k f e => ?_, fun j k f g e1 e2 hjk e => ?_⟩
  · obtain ⟨h1, h2, h3, h4⟩ := hk k f e
    exact ⟨h1, chk_all h2 h3 h4⟩
  · obtain ⟨h1, h2, h3, h4⟩ := hk j f e1
    obtain ⟨k1, k2, k3, k4⟩ := hk k g e2
    have := dig_ok h2 h3 h4
    rw [e, dig_ok k2 k3 k4] at this
    lia

/-! each value is brought to its written form before it is used again -/
noncomputable def fZ (z : Int) (k : Int → Bool) : Bool := @Int.rec (fun _ => Bool) (fun n => (@Nat.rec (fun _ => Bool) (k (Int.ofNat 0)) (fun n0 _ => (@Nat.rec (fun _ => Bool) (k (Int.ofNat 1)) (fun n1 _ => (@Nat.rec (fun _ => Bool) (k (Int.ofNat 2)) (fun n2 _ => (@Nat.rec (fun _ => Bool) (k (Int.ofNat 3)) (fun n3 _ => (@Nat.rec (fun _ => Bool) (k (Int.ofNat 4)) (fun n4 _ => (@Nat.rec (fun _ => Bool) (k (Int.ofNat 5)) (fun n5 _ => (@Nat.rec (fun _ => Bool) (k (Int.ofNat 6)) (fun n6 _ => (@Nat.rec (fun _ => Bool) (k (Int.ofNat 7)) (fun n7 _ => (@Nat.rec (fun _ => Bool) (k (Int.ofNat 8)) (fun n8 _ => (@Nat.rec (fun _ => Bool) (k (Int.ofNat 9)) (fun n9 _ => (@Nat.rec (fun _ => Bool) (k (Int.ofNat 10)) (fun n10 _ => false) n9)) n8)) n7)) n6)) n5)) n4)) n3)) n2)) n1)) n0)) n)) (fun _ => false) z
theorem fZ_true {z : Int} {k : Int → Bool} (h : fZ z k = true) : k z = true := by
  match z, h with
  | .ofNat 0, h => exact h
  | .ofNat 1, h => exact h
  | .ofNat 2, h => exact h
  | .ofNat 3, h => exact h
  | .ofNat 4, h => exact h
  | .ofNat 5, h => exact h
  | .ofNat 6, h => exact h
  | .ofNat 7, h => exact h
  | .ofNat 8, h => exact h
  | .ofNat 9, h => exact h
  | .ofNat 10, h => exact h
  | .ofNat (n + 11), h => cases h
  | .negSucc _, h => cases h
noncomputable def fL (l : List Int) : (List Int → Bool) → Bool := @List.rec Int (fun _ => (List Int → Bool) → Bool) (fun k => k []) (fun z _ ih k => fZ z fun z' => ih fun r' => k (z' :: r')) l
theorem fL_true : ∀ {l : List Int} {k : List Int → Bool}, fL l k = true → k l = true
  | [], _, h => h
  | z :: r, k, h => by
    have h : fZ z (fun z' => fL r fun r' => k (z' :: r')) = true := h
    exact fL_true (k := fun r' => k (z :: r')) (fZ_true h)
noncomputable def fLL (l : List (List Int)) : (List (List Int) → Bool) → Bool := @List.rec (List Int) (fun _ => (List (List Int) → Bool) → Bool) (fun k => k []) (fun z _ ih k => fL z fun z' => ih fun r' => k (z' :: r')) l
theorem fLL_true : ∀ {l : List (List Int)} {k : List (List Int) → Bool}, fLL l k = true → k l = true
  | [], _, h => h
  | z :: r, k, h => by
    have h : fL z (fun z' => fLL r fun r' => k (z' :: r')) = true := h
    exact fLL_true (k := fun r' => k (z :: r')) (fL_true h)
noncomputable def fB (b : Bool) (k : Bool → Bool) : Bool := @Bool.rec (fun _ => Bool) (k false) (k true) b
theorem fB_true {b : Bool} {k : Bool → Bool} (h : fB b k = true) : k b = true := by cases b <;> exact h
noncomputable def fS (l : List (Bool × Int)) : (List (Bool × Int) → Bool) → Bool := @List.rec (Bool × Int) (fun _ => (List (Bool × Int) → Bool) → Bool) (fun k => k []) (fun p _ ih k => fB p.1 fun b' => fZ p.2 fun z' => ih fun r' => k ((b', z') :: r')) l
theorem fS_true : ∀ {l : List (Bool × Int)} {k : List (Bool × Int) → Bool}, fS l k = true → k l = true
  | [], _, h => h
  | (b, z) :: r, k, h => by
    have h : fB b (fun b' => fZ z fun z' => fS r fun r' => k ((b', z') :: r')) = true := h
    exact fS_true (k := fun r' => k ((b, z) :: r')) (fZ_true (k := fun z' => fS r fun r' => k ((b, z') :: r')) (fB_true h))
noncomputable def fP (l : List (Int × Int)) : (List (Int × Int) → Bool) → Bool := @List.rec (Int × Int) (fun _ => (List (Int × Int) → Bool) → Bool) (fun k => k []) (fun p _ ih k => fZ p.1 fun b' => fZ p.2 fun z' => ih fun r' => k ((b', z') :: r')) l
theorem fP_true : ∀ {l : List (Int × Int)} {k : List (Int × Int) → Bool}, fP l k = true → k l = true
  | [], _, h => h
  | (b, z) :: r, k, h => by
    have h : fZ b (fun b' => fZ z fun z' => fP r fun r' => k ((b', z') :: r')) = true := h
    exact fP_true (k := fun r' => k ((b, z) :: r')) (fZ_true (k := fun z' => fP r fun r' => k ((b, z') :: r')) (fZ_true (k := fun b' => fZ z fun z' => fP r fun r' => k ((b', z') :: r')) h))
noncomputable def fT (l : List (Int × Int × Int)) : (List (Int × Int × Int) → Bool) → Bool := @List.rec (Int × Int × Int) (fun _ => (List (Int × Int × Int) → Bool) → Bool) (fun k => k []) (fun p _ ih k => fZ p.1 fun a' => fZ p.2.1 fun b' => fZ p.2.2 fun z' => ih fun r' => k ((a', b', z') :: r')) l
theorem fT_true : ∀ {l : List (Int × Int × Int)} {k : List (Int × Int × Int) → Bool}, fT l k = true → k l = true
  | [], _, h => h
  | (a, b, z) :: r, k, h => by
    have h : fZ a (fun a' => fZ b fun b' => fZ z fun z' => fT r fun r' => k ((a', b', z') :: r')) = true := h
    exact fT_true (k := fun r' => k ((a, b, z) :: r')) (fZ_true (k := fun z' => fT r fun r' => k ((a, b, z') :: r')) (fZ_true (k := fun b' => fZ z fun z' => fT r fun r' => k ((a, b', z') :: r')) (fZ_true (k := fun a' => fZ b fun b' => fZ z fun z' => fT r fun r' => k ((a', b', z') :: r')) h)))

/-! quick tests -/
noncomputable def eqZ : Int → Int → Bool
  | .ofNat m, .ofNat n => Nat.beq m n
  | _, _ => false
theorem eqZ_true : ∀ {a b : Int}, eqZ a b = true → a = b
  | .ofNat m, .ofNat n, h => by rw [Nat.eq_of_beq_eq_true (show Nat.beq m n = true from h)]
  | .ofNat _, .negSucc _, h => by cases h
  | .negSucc _, _, h => by cases h
noncomputable def ltZ : Int → Int → Bool
  | .ofNat m, .ofNat n => Nat.blt m n
  | .ofNat _, .negSucc _ => false
  | .negSucc _, .ofNat _ => true
  | .negSucc m, .negSucc n => Nat.blt n m
theorem ltZ_eq : ∀ (a b : Int), ltZ a b = decide (a < b)
  | .ofNat m, .ofNat n => by
    show Nat.blt m n = _
    rw [Bool.eq_iff_iff, Nat.blt_eq, decide_eq_true_eq]
    exact Int.ofNat_lt.symm
  | .ofNat m, .negSucc n => by
    show false = _
    symm
    rw [decide_eq_false_iff_not]
    have := Int.negSucc_lt_zero n
    have h2 : (0 : Int) ≤ Int.ofNat m := Int.natCast_nonneg m
    lia
  | .negSucc m, .ofNat n => by
    show true = _
    symm
    rw [decide_eq_true_eq]
    have := Int.negSucc_lt_zero m
    have h2 : (0 : Int) ≤ Int.ofNat n := Int.natCast_nonneg n
    lia
  | .negSucc m, .negSucc n => by
    show Nat.blt n m = _
    rw [Bool.eq_iff_iff, Nat.blt_eq, decide_eq_true_eq]
    simp only [Int.negSucc_eq]
    lia
noncomputable def eqLZ : List Int → List Int → Bool
  | [], [] => true
  | a :: l, b :: m => eqZ a b && eqLZ l m
  | _, _ => false
theorem eqLZ_true : ∀ {l m : List Int}, eqLZ l m = true → l = m
  | [], [], _ => rfl
  | a :: l, b :: m, h => by
    unfold eqLZ at h
    rw [Bool.and_eq_true] at h
    rw [eqZ_true h.1, eqLZ_true h.2]
  | [], _ :: _, h => by cases h
  | _ :: _, [], h => by cases h
noncomputable def eqLL : List (List Int) → List (List Int) → Bool
  | [], [] => true
  | a :: l, b :: m => eqLZ a b && eqLL l m
  | _, _ => false
theorem eqLL_true : ∀ {l m : List (List Int)}, eqLL l m = true → l = m
  | [], [], _ => rfl
  | a :: l, b :: m, h => by
    unfold eqLL at h
    rw [Bool.and_eq_true] at h
    rw [eqLZ_true h.1, eqLL_true h.2]
  | [], _ :: _, h => by cases h
  | _ :: _, [], h => by cases h
noncomputable def eqBB : Bool → Bool → Bool
  | true, b => b
  | false, b => !b
noncomputable def eqSS : List (Bool × Int) → List (Bool × Int) → Bool
  | [], [] => true
  | a :: l, b :: m => eqBB a.1 b.1 && (eqZ a.2 b.2 && eqSS l m)
  | _, _ => false
theorem eqSS_true : ∀ {l m : List (Bool × Int)}, eqSS l m = true → l = m
  | [], [], _ => rfl
  | (a, c) :: l, (b, d) :: m, h => by
    unfold eqSS at h
    simp only [Bool.and_eq_true] at h
    obtain ⟨h1, h2, h3⟩ := h
    have : a = b := by cases a <;> cases b <;> simp [eqBB] at h1 <;> rfl
    rw [this, eqZ_true h2, eqSS_true h3]
  | [], _ :: _, h => by cases h
  | _ :: _, [], h => by cases h

/-! the shapes -/
noncomputable def putC : List (List Int) → Int → (List (List Int) → Bool) → Bool
  | [], c, k => k [[c]]
  | xs :: xss, c, k => fL (insL xs c) fun ys => match Nat.beq (idx c ys + 1) ys.length with
    | true => k (ys :: xss)
    | false => fL (ys.eraseIdx (idx c ys + 1)) fun zs => fZ (ys.getD (idx c ys + 1) 0) fun d => putC xss d fun r => k (zs :: r)
theorem putC_true : ∀ {xss : List (List Int)} {c : Int} {k : List (List Int) → Bool}, putC xss c k = true → k (putL xss c) = true
  | [], _, _, h => h
  | xs :: xss, c, k, h => by
    unfold putC at h
    have h := fL_true h
    rw [putL]
    split at h
    · rename_i e; rw [if_pos (Nat.eq_of_beq_eq_true e)]; exact h
    · rename_i e
      rw [if_neg (fun q => by rw [q, Nat.beq_refl] at e; cases e)]
      exact putC_true (k := fun r => k (_ :: r)) (fZ_true (fL_true h))
noncomputable def shC : List (List Int) → List (Bool × Int) → (List (List Int) → Bool) → Bool
  | _, [], k => k []
  | xss, (true, c) :: ps, k => fLL (filtL c xss) fun ys => fL (shapeOf ys) fun s => shC ys ps fun r => k (s :: r)
  | xss, (false, c) :: ps, k => putC xss c fun ys => fL (shapeOf ys) fun s => shC ys ps fun r => k (s :: r)
theorem shC_true : ∀ {ps : List (Bool × Int)} {xss : List (List Int)} {k : List (List Int) → Bool}, shC xss ps k = true → k (shRun xss ps) = true
  | [], _, _, h => h
  | (true, c) :: ps, xss, k, h => by
    unfold shC at h
    have h := fL_true (fLL_true h)
    exact shC_true (k := fun r => k (_ :: r)) h
  | (false, c) :: ps, xss, k, h => by
    unfold shC at h
    have h := fL_true (putC_true h)
    exact shC_true (k := fun r => k (_ :: r)) h
noncomputable def shapesC (steps : List (Bool × Int)) (k : List (List Int) → Bool) : Bool := fS steps.reverse fun ps => shC [] ps fun r => fLL ([] :: r).reverse k
theorem shapesC_true {steps : List (Bool × Int)} {k : List (List Int) → Bool} (h : shapesC steps k = true) : k (shapesL steps) = true := by
  unfold shapesC at h
  exact fLL_true (shC_true (fS_true h))

/-! the columns -/
noncomputable def keysB : Nat → List (Int × Int) → Bool
  | _, [] => true
  | i, kv :: r => eqZ kv.1 (.ofNat i) && keysB (i + 1) r
theorem keysB_get : ∀ {c : List (Int × Int)} {i : Nat}, keysB i c = true → ∀ p < c.length, ∃ v, (c.map (·.2))[p]? = some v ∧ dget c ((i + p : Nat) : Int) = some v
  | [], _, _, p, hp => absurd hp (Nat.not_lt_zero p)
  | kv :: r, i, h, p, hp => by
    unfold keysB at h
    rw [Bool.and_eq_true] at h
    have e : kv.1 = (i : Int) := eqZ_true h.1
    cases p with
    | zero => exact ⟨kv.2, rfl, by unfold dget; rw [List.find?_cons_of_pos (by simp [e])]; rfl⟩
    | succ p =>
      obtain ⟨v, h1, h2⟩ := keysB_get h.2 p (by simpa using hp)
      refine ⟨v, by simpa using h1, ?_⟩
      unfold dget at h2 ⊢
      rw [List.find?_cons_of_neg (by simp [e]; lia)]
      rw [← h2]
      congr 4
      funext kv
      congr 2
      lia
noncomputable def colsC : List (List Int) → (List (List Int) → Bool) → Bool
  | [], k => k []
  | s :: r, k => fP (colL s) fun c => keysB 0 c && Nat.blt c.length 900 && fL (c.map (·.2)) fun t => colsC r fun ts => k (t :: ts)
theorem colsC_true : ∀ {ss : List (List Int)} {k : List (List Int) → Bool}, colsC ss k = true →
    k (ss.map fun s => (colL s).map (·.2)) = true ∧ Turn (ss.map colL) (ss.map fun s => (colL s).map (·.2))
  | [], _, h => ⟨h, trivial⟩
  | s :: r, k, h => by
    unfold colsC at h
    have h := fP_true h
    simp only [Bool.and_eq_true] at h
    obtain ⟨⟨h1, h2⟩, h3⟩ := h
    obtain ⟨h4, h5⟩ := colsC_true (k := fun ts => k (_ :: ts)) (fL_true h3)
    refine ⟨h4, fun p hp => ?_, by simp, Nat.blt_eq.mp h2, h5⟩
    obtain ⟨v, q1, q2⟩ := keysB_get h1 p hp
    exact ⟨v, q1, by simpa using q2⟩

/-! chains and crossings -/
noncomputable def chainG (cmp : Int → Int → Bool) : List (Int × Int) → List Int → List Int
  | dn, [] => dn.map (·.2)
  | dn, e :: r => chainG cmp (dn ++ [(e, 1 + maxI (0 :: (dn.filter fun p => cmp p.1 e).map (·.2)))]) r
theorem pick_eq (P : Int → Bool) : ∀ (dn : List (Int × Int)) (es : List Int), ((List.range dn.length).filter fun j => P ((dn.map (·.1) ++ es).getD j 0)).map (fun j => (dn.map (·.2)).getD j 0) = (dn.filter fun p => P p.1).map (·.2) := by
  intro dn
  generalize hn : dn.length = n
  induction n generalizing dn with
  | zero =>
    intro es
    rw [List.length_eq_zero_iff.mp hn]; rfl
  | succ n ih =>
    intro es
    obtain ⟨dn', x, rfl⟩ : ∃ dn' x, dn = dn' ++ [x] := ⟨dn.dropLast, dn.getLast (by intro e; rw [e] at hn; cases hn), (List.dropLast_concat_getLast _).symm⟩
    have hl : dn'.length = n := by simpa using hn
    rw [show ((dn' ++ [x]).filter fun p => P p.1).map (·.2) = (dn'.filter fun p => P p.1).map (·.2) ++ ([x].filter fun p => P p.1).map (·.2) by rw [List.filter_append, List.map_append]]
    rw [List.range_succ, List.filter_append, List.map_append]
    congr 1
    · have := ih dn' hl (x.1 :: es)
      rw [← this]
      simp only [List.map_append, List.map_cons, List.map_nil, List.append_assoc, List.cons_append, List.nil_append]
      refine List.map_congr_left fun j hj => ?_
      have hj2 : j < n := by simpa using (List.mem_filter.mp hj).1
      rw [List.getD_eq_getElem?_getD, List.getD_eq_getElem?_getD, List.getElem?_append_left (by simpa [hl] using hj2)]
    · have e1 : ((dn' ++ [x]).map (·.1) ++ es).getD n 0 = x.1 := by
        rw [List.getD_eq_getElem?_getD, List.map_append, List.append_assoc, List.getElem?_append_right (by simp [hl])]
        simp [hl]
      have e2 : ((dn' ++ [x]).map (·.2)).getD n 0 = x.2 := by
        rw [List.getD_eq_getElem?_getD, List.map_append, List.getElem?_append_right (by simp [hl])]
        simp [hl]
      simp only [List.filter_cons, List.filter_nil]
      rw [e1]
      split
      · simp only [List.map_cons, List.map_nil]; rw [e2]
      · rfl
theorem chain_go (cmp : Int → Int → Bool) (ends : List Int) : ∀ (r : List Int) (dn : List (Int × Int)), dn.map (·.1) ++ r = ends →
    ((List.range ends.length).drop dn.length).foldl (chainStep cmp ends) (dn.map (·.2)) = chainG cmp dn r := by
  intro r
  induction r with
  | nil =>
    intro dn h
    have hl : ends.length = dn.length := by rw [← h]; simp
    rw [List.drop_eq_nil_of_le (by simp [hl])]
    rfl
  | cons e r ih =>
    intro dn h
    have hl : dn.length < ends.length := by rw [← h]; simp
    rw [range_drop hl, List.foldl_cons]
    have hst : chainStep cmp ends (dn.map (·.2)) dn.length = (dn ++ [(e, 1 + maxI (0 :: (dn.filter fun p => cmp p.1 e).map (·.2)))]).map (·.2) := by
      unfold chainStep pickL
      have he : ends.getD dn.length 0 = e := by
        rw [← h, List.getD_eq_getElem?_getD, List.getElem?_append_right (by simp)]
        simp
      rw [he]
      have := pick_eq (fun x => cmp x e) dn (e :: r)
      rw [h] at this
      rw [this]
      simp
    rw [hst]
    have := ih (dn ++ [(e, 1 + maxI (0 :: (dn.filter fun p => cmp p.1 e).map (·.2)))]) (by rw [← h]; simp)
    show _ = chainG cmp (dn ++ [(e, 1 + maxI (0 :: (dn.filter fun p => cmp p.1 e).map (·.2)))]) r
    rw [← this]
    simp
theorem chainL_eq (cmp : Int → Int → Bool) (ends : List Int) : chainL cmp ends = chainG cmp [] ends := by
  have := chain_go cmp ends ends [] rfl
  rw [← this]
  rfl
noncomputable def chainC (cmp : Int → Int → Bool) : List (Int × Int) → List Int → (List Int → Bool) → Bool
  | dn, [], k => k (dn.map (·.2))
  | dn, e :: r, k => fL ((dn.filter fun p => cmp p.1 e).map (·.2)) fun l => fZ (1 + maxI (0 :: l)) fun v => chainC cmp (dn ++ [(e, v)]) r k
theorem chainC_true {cmp : Int → Int → Bool} : ∀ {r : List Int} {dn : List (Int × Int)} {k : List Int → Bool}, chainC cmp dn r k = true → k (chainG cmp dn r) = true
  | [], _, _, h => h
  | e :: r, dn, k, h => by
    unfold chainC at h
    have h2 := chainC_true (fZ_true (fL_true h))
    exact h2
noncomputable def endsF (ps : List (Int × Int)) (gap : Int) : List Int := (ps.filter fun p => ltZ p.1 gap && !ltZ p.2 gap).map (·.2)
noncomputable def pairsF (f l : List (Int × Int)) : List (Int × Int) := (List.range f.length).map fun (c : Nat) => (dg f c, dg l c)
theorem endsF_eq (f l : List (Int × Int)) (gap : Int) : endsF (pairsF f l) gap = endsL f l gap := by
  unfold endsF pairsF endsL
  rw [List.filter_map, List.map_map]
  have : ((fun p : Int × Int => ltZ p.1 gap && !ltZ p.2 gap) ∘ fun (c : Nat) => (dg f c, dg l c)) = fun (c : Nat) => decide (dg f c < gap) && decide (gap ≤ dg l c) := by
    funext c
    show (ltZ (dg f c) gap && !ltZ (dg l c) gap) = _
    rw [ltZ_eq, ltZ_eq]
    congr 1
    rw [← decide_not]
    exact decide_eq_decide.mpr Int.not_lt
  rw [this]
  rfl
theorem gt_eq : gtB = fun a b => ltZ b a := by funext a b; unfold gtB; rw [ltZ_eq]
theorem lt_eq : ltB = fun a b => ltZ a b := by funext a b; unfold ltB; rw [ltZ_eq]
noncomputable def toldE (ps : List (Int × Int)) (gap : Int) (t : Int × Int × Int) : Bool := fL (endsF ps gap) fun es =>
  eqZ (es.length : Nat) t.1 && (chainC (fun a b => ltZ b a) [] es fun a => eqZ (maxI (0 :: a)) t.2.1) && (chainC (fun a b => ltZ a b) [] es fun a => eqZ (maxI (0 :: a)) t.2.2)
theorem toldE_true {f l : List (Int × Int)} {gap : Int} {t : Int × Int × Int} (h : toldE (pairsF f l) gap t = true) : toldOf f l gap = t := by
  unfold toldE at h
  have h := fL_true h
  simp only [Bool.and_eq_true] at h
  obtain ⟨⟨h1, h2⟩, h3⟩ := h
  have h2 := eqZ_true (chainC_true h2)
  have h3 := eqZ_true (chainC_true h3)
  have h1 := eqZ_true h1
  rw [endsF_eq] at h1 h2 h3
  unfold toldOf
  rw [chainL_eq, chainL_eq, gt_eq, lt_eq, h1, h2, h3]
noncomputable def widE (ps : List (Int × Int)) : Nat → List (Int × Int × Int) → Bool
  | _, [] => true
  | g, t :: r => toldE ps (.ofNat g) t && widE ps (g + 1) r
theorem widE_true {f l : List (Int × Int)} : ∀ {ts : List (Int × Int × Int)} {g : Nat}, widE (pairsF f l) g ts = true → (List.range' g ts.length).map (fun (i : Nat) => toldOf f l i) = ts
  | [], _, _ => rfl
  | t :: r, g, h => by
    unfold widE at h
    rw [Bool.and_eq_true] at h
    rw [List.length_cons, List.range'_succ, List.map_cons, widE_true h.2]
    exact congrArg (· :: r) (toldE_true h.1)
noncomputable def widC (steps : List (Bool × Int)) (ts : List (Int × Int × Int)) : Bool := fP (flL true steps 0 []) fun f => fP (flL false steps 0 []) fun l => okFL f l && fP (pairsF f l) fun ps => Nat.beq ts.length (steps.length + 1) && widE ps 0 ts
theorem widC_true {steps : List (Bool × Int)} {ts : List (Int × Int × Int)} (h : widC steps ts = true) : okFL (flL true steps 0 []) (flL false steps 0 []) = true ∧ widestL steps = ts := by
  unfold widC at h
  have h := fP_true (fP_true h)
  rw [Bool.and_eq_true] at h
  refine ⟨h.1, ?_⟩
  have h2 := fP_true h.2
  rw [Bool.and_eq_true] at h2
  have := widE_true h2.2
  rw [Nat.eq_of_beq_eq_true h2.1] at this
  unfold widestL
  rw [List.range_eq_range', this]

/-! all of the law -/
noncomputable def inB (size : Nat) (p : Bool × Int) : Bool := match p.2 with
  | .ofNat n => Nat.blt n size
  | .negSucc _ => false
theorem inB_true {size : Nat} {p : Bool × Int} (h : inB size p = true) : ∃ c : Nat, p.2 = c ∧ c < size := by
  unfold inB at h
  split at h
  · rename_i n e; exact ⟨n, e, Nat.blt_eq.mp h⟩
  · cases h
noncomputable def rowB (s : List Int) : Bool := Nat.blt s.length 900 && s.all fun x => inB 900 (true, x)
theorem rowB_true {s : List Int} (h : rowB s = true) : s.length < 900 ∧ ∀ x ∈ s, 0 ≤ x ∧ x < 900 := by
  unfold rowB at h
  rw [Bool.and_eq_true] at h
  refine ⟨Nat.blt_eq.mp h.1, fun x hx => ?_⟩
  obtain ⟨c, h1, h2⟩ := inB_true (List.all_eq_true.mp h.2 x hx)
  have h1 : x = c := h1
  lia
noncomputable def lenB (steps : List (Bool × Int)) : Bool := Nat.ble 2 steps.length && Nat.ble steps.length 20
theorem lenB_true {steps : List (Bool × Int)} (h : lenB steps = true) : 2 ≤ steps.length ∧ steps.length ≤ 20 := by
  unfold lenB at h
  rw [Bool.and_eq_true] at h
  exact ⟨Nat.le_of_ble_eq_true h.1, Nat.le_of_ble_eq_true h.2⟩
noncomputable def unC (shapes : List (List Int)) (k : List (Bool × Int) → Bool) : Bool := match unwindL shapes with
  | none => false
  | some st => fS st k
theorem unC_true {shapes : List (List Int)} {k : List (Bool × Int) → Bool} (h : unC shapes k = true) : ∃ st, unwindL shapes = some st ∧ k st = true := by
  unfold unC at h
  split at h
  · cases h
  · rename_i st e; exact ⟨st, e, fS_true h⟩
noncomputable def lawC (size : Nat) (steps : List (Bool × Int)) : Bool := fS steps fun st => lenB st && (st.all (inB size)) && shapesC st fun sh => Nat.beq sh.length (st.length + 1) && (sh.all rowB) &&
  colsC sh fun tu => unC tu fun ot => fL (depthsFrom 0 st) fun de => eqLZ (tu.map List.sum) de && Nat.blt tu.length 900 && (tu.all rowB) && (unC sh fun s2 => eqSS s2 st) && (shapesC ot fun sh2 => eqLL sh2 tu) &&
    lenB ot && (ot.all (inB size)) && eqLZ (depthsFrom 0 ot) de && fT (trip de sh) fun tr => widC st tr && fT (tr.map swap3) (widC ot)
theorem lawC_true {size : Nat} {steps : List (Bool × Int)} (h : lawC size steps = true) : ∃ turned other, LawOk size steps turned other := by
  unfold lawC at h
  have h := fS_true h
  simp only [Bool.and_eq_true] at h
  obtain ⟨⟨h1, h2⟩, h⟩ := h
  have h := shapesC_true h
  simp only [Bool.and_eq_true] at h
  obtain ⟨⟨h3, h4⟩, h⟩ := h
  obtain ⟨h, h5⟩ := colsC_true h
  generalize htu : (shapesL steps).map (fun s => (colL s).map (·.2)) = tu at h h5
  obtain ⟨ot, h6, h⟩ := unC_true h
  have h := fL_true h
  simp only [Bool.and_eq_true] at h
  obtain ⟨⟨⟨⟨⟨⟨⟨⟨h7, h8⟩, h9⟩, h10⟩, h11⟩, h12⟩, h13⟩, h14⟩, h⟩ := h
  have h := fT_true h
  simp only [Bool.and_eq_true] at h
  obtain ⟨h15, h16⟩ := h
  obtain ⟨w1, w2⟩ := widC_true h15
  obtain ⟨w3, w4⟩ := widC_true (fT_true h16)
  obtain ⟨s2, h17, h18⟩ := unC_true h10
  have h18 := eqSS_true h18
  subst h18
  have hlen := Nat.eq_of_beq_eq_true h3
  have htl : tu.length = (shapesL s2).length := by rw [← htu, List.length_map]
  refine ⟨tu, ot, lenB_true h1, fun p hp => inB_true (List.all_eq_true.mp h2 p hp), hlen, fun s hs => rowB_true (List.all_eq_true.mp h4 s hs), ?_, h5, ⟨?_, Nat.blt_eq.mp h8⟩, fun s hs => (rowB_true (List.all_eq_true.mp h9 s hs)).1, h6, h17,
    eqLL_true (shapesC_true h11), lenB_true h12, fun p hp => inB_true (List.all_eq_true.mp h13 p hp), eqLZ_true h14, w1, w3, w2.symm, ?_⟩
  · have := eqLZ_true h7
    rw [← htu, List.map_map] at this
    exact this
  · intro e; rw [e] at htl; rw [← htl] at hlen; simp at hlen
  · rw [w4, w2]
noncomputable def tree (size : Nat) (P : List (Bool × Int) → Bool) : Nat → Nat → List Int → List (Bool × Int) → Bool
  | 0, _, _, pre => P pre.reverse
  | k + 1, nf, run, pre => (if nf < size then tree size P k (nf + 1) (run ++ [(nf : Int)]) ((true, (nf : Int)) :: pre) else true) &&
    (List.range run.length).all fun i => tree size P k nf (run.eraseIdx i) ((false, run.getD i 0) :: pre)
theorem tree_true {size : Nat} {P : List (Bool × Int) → Bool} : ∀ {k nf : Nat} {run : List Int} {pre : List (Bool × Int)}, tree size P k nf run pre = true → ∀ t ∈ seqsFrom size k nf run, P (pre.reverse ++ t) = true
  | 0, nf, run, pre, h, t, ht => by
    unfold seqsFrom at ht
    rw [List.mem_singleton] at ht
    subst ht
    rw [List.append_nil]; exact h
  | k + 1, nf, run, pre, h, t, ht => by
    unfold tree at h
    rw [Bool.and_eq_true] at h
    unfold seqsFrom at ht
    rcases List.mem_append.mp ht with ht | ht
    · split at ht
      · rename_i hlt
        rw [if_pos hlt] at h
        obtain ⟨t', h1, rfl⟩ := List.mem_map.mp ht
        have := tree_true h.1 t' h1
        simpa using this
      · cases ht
    · obtain ⟨i, hi, ht⟩ := List.mem_flatMap.mp ht
      obtain ⟨t', h1, rfl⟩ := List.mem_map.mp ht
      have := tree_true (List.all_eq_true.mp h.2 i hi) t' h1
      simpa using this
theorem node_true {size : Nat} {P : List (Bool × Int) → Bool} {k nf : Nat} {run : List Int} {pre : List (Bool × Int)} (ho : nf < size → tree size P k (nf + 1) (run ++ [(nf : Int)]) ((true, (nf : Int)) :: pre) = true)
    (hc : ∀ i < run.length, tree size P k nf (run.eraseIdx i) ((false, run.getD i 0) :: pre) = true) : tree size P (k + 1) nf run pre = true := by
  rw [tree, Bool.and_eq_true]
  refine ⟨?_, List.all_eq_true.mpr fun i hi => hc i (List.mem_range.mp hi)⟩
  split
  · rename_i h; exact ho h
  · rfl

theorem t4_4 : tree 4 (lawC 4) 4 4 [0, 1, 2, 3] [(true, 3), (true, 2), (true, 1), (true, 0)] = true := by decide +kernel
theorem t4_5 : tree 4 (lawC 4) 4 3 [1, 2] [(false, 0), (true, 2), (true, 1), (true, 0)] = true := by decide +kernel
theorem t4_6 : tree 4 (lawC 4) 4 3 [0, 2] [(false, 1), (true, 2), (true, 1), (true, 0)] = true := by decide +kernel
theorem t4_7 : tree 4 (lawC 4) 4 3 [0, 1] [(false, 2), (true, 2), (true, 1), (true, 0)] = true := by decide +kernel
theorem t4_3 : tree 4 (lawC 4) 5 3 [0, 1, 2] [(true, 2), (true, 1), (true, 0)] = true := node_true (fun _ => t4_4) (fun i h => match i, h with | 0, _ => t4_5 | 1, _ => t4_6 | 2, _ => t4_7 | n + 3, h => absurd h (by simp))
theorem t4_8 : tree 4 (lawC 4) 5 2 [1] [(false, 0), (true, 1), (true, 0)] = true := by decide +kernel
theorem t4_9 : tree 4 (lawC 4) 5 2 [0] [(false, 1), (true, 1), (true, 0)] = true := by decide +kernel
theorem t4_2 : tree 4 (lawC 4) 6 2 [0, 1] [(true, 1), (true, 0)] = true := node_true (fun _ => t4_3) (fun i h => match i, h with | 0, _ => t4_8 | 1, _ => t4_9 | n + 2, h => absurd h (by simp))
theorem t4_10 : tree 4 (lawC 4) 6 1 [] [(false, 0), (true, 0)] = true := by decide +kernel
theorem t4_1 : tree 4 (lawC 4) 7 1 [0] [(true, 0)] = true := node_true (fun _ => t4_2) (fun i h => match i, h with | 0, _ => t4_10 | n + 1, h => absurd h (by simp))
theorem t4_0 : tree 4 (lawC 4) 8 0 [] [] = true := node_true (fun _ => t4_1) (fun i h => absurd h (by simp))
theorem t5_17 : tree 5 (lawC 5) 4 5 [1, 2, 3, 4] [(false, 0), (true, 4), (true, 3), (true, 2), (true, 1), (true, 0)] = true := by decide +kernel
theorem t5_18 : tree 5 (lawC 5) 4 5 [0, 2, 3, 4] [(false, 1), (true, 4), (true, 3), (true, 2), (true, 1), (true, 0)] = true := by decide +kernel
theorem t5_19 : tree 5 (lawC 5) 4 5 [0, 1, 3, 4] [(false, 2), (true, 4), (true, 3), (true, 2), (true, 1), (true, 0)] = true := by decide +kernel
theorem t5_20 : tree 5 (lawC 5) 4 5 [0, 1, 2, 4] [(false, 3), (true, 4), (true, 3), (true, 2), (true, 1), (true, 0)] = true := by decide +kernel
theorem t5_21 : tree 5 (lawC 5) 4 5 [0, 1, 2, 3] [(false, 4), (true, 4), (true, 3), (true, 2), (true, 1), (true, 0)] = true := by decide +kernel
theorem t5_16 : tree 5 (lawC 5) 5 5 [0, 1, 2, 3, 4] [(true, 4), (true, 3), (true, 2), (true, 1), (true, 0)] = true := node_true (fun h => absurd h (by decide)) (fun i h => match i, h with | 0, _ => t5_17 | 1, _ => t5_18 | 2, _ => t5_19 | 3, _ => t5_20 | 4, _ => t5_21 | n + 5, h => absurd h (by simp))
theorem t5_23 : tree 5 (lawC 5) 4 5 [1, 2, 3, 4] [(true, 4), (false, 0), (true, 3), (true, 2), (true, 1), (true, 0)] = true := by decide +kernel
theorem t5_24 : tree 5 (lawC 5) 4 4 [2, 3] [(false, 1), (false, 0), (true, 3), (true, 2), (true, 1), (true, 0)] = true := by decide +kernel
theorem t5_25 : tree 5 (lawC 5) 4 4 [1, 3] [(false, 2), (false, 0), (true, 3), (true, 2), (true, 1), (true, 0)] = true := by decide +kernel
theorem t5_26 : tree 5 (lawC 5) 4 4 [1, 2] [(false, 3), (false, 0), (true, 3), (true, 2), (true, 1), (true, 0)] = true := by decide +kernel
theorem t5_22 : tree 5 (lawC 5) 5 4 [1, 2, 3] [(false, 0), (true, 3), (true, 2), (true, 1), (true, 0)] = true := node_true (fun _ => t5_23) (fun i h => match i, h with | 0, _ => t5_24 | 1, _ => t5_25 | 2, _ => t5_26 | n + 3, h => absurd h (by simp))
theorem t5_28 : tree 5 (lawC 5) 4 5 [0, 2, 3, 4] [(true, 4), (false, 1), (true, 3), (true, 2), (true, 1), (true, 0)] = true := by decide +kernel
theorem t5_29 : tree 5 (lawC 5) 4 4 [2, 3] [(false, 0), (false, 1), (true, 3), (true, 2), (true, 1), (true, 0)] = true := by decide +kernel
theorem t5_30 : tree 5 (lawC 5) 4 4 [0, 3] [(false, 2), (false, 1), (true, 3), (true, 2), (true, 1), (true, 0)] = true := by decide +kernel
theorem t5_31 : tree 5 (lawC 5) 4 4 [0, 2] [(false, 3), (false, 1), (true, 3), (true, 2), (true, 1), (true, 0)] = true := by decide +kernel
theorem t5_27 : tree 5 (lawC 5) 5 4 [0, 2, 3] [(false, 1), (true, 3), (true, 2), (true, 1), (true, 0)] = true := node_true (fun _ => t5_28) (fun i h => match i, h with | 0, _ => t5_29 | 1, _ => t5_30 | 2, _ => t5_31 | n + 3, h => absurd h (by simp))
theorem t5_33 : tree 5 (lawC 5) 4 5 [0, 1, 3, 4] [(true, 4), (false, 2), (true, 3), (true, 2), (true, 1), (true, 0)] = true := by decide +kernel
theorem t5_34 : tree 5 (lawC 5) 4 4 [1, 3] [(false, 0), (false, 2), (true, 3), (true, 2), (true, 1), (true, 0)] = true := by decide +kernel
theorem t5_35 : tree 5 (lawC 5) 4 4 [0, 3] [(false, 1), (false, 2), (true, 3), (true, 2), (true, 1), (true, 0)] = true := by decide +kernel
theorem t5_36 : tree 5 (lawC 5) 4 4 [0, 1] [(false, 3), (false, 2), (true, 3), (true, 2), (true, 1), (true, 0)] = true := by decide +kernel
theorem t5_32 : tree 5 (lawC 5) 5 4 [0, 1, 3] [(false, 2), (true, 3), (true, 2), (true, 1), (true, 0)] = true := node_true (fun _ => t5_33) (fun i h => match i, h with | 0, _ => t5_34 | 1, _ => t5_35 | 2, _ => t5_36 | n + 3, h => absurd h (by simp))
theorem t5_38 : tree 5 (lawC 5) 4 5 [0, 1, 2, 4] [(true, 4), (false, 3), (true, 3), (true, 2), (true, 1), (true, 0)] = true := by decide +kernel
theorem t5_39 : tree 5 (lawC 5) 4 4 [1, 2] [(false, 0), (false, 3), (true, 3), (true, 2), (true, 1), (true, 0)] = true := by decide +kernel
theorem t5_40 : tree 5 (lawC 5) 4 4 [0, 2] [(false, 1), (false, 3), (true, 3), (true, 2), (true, 1), (true, 0)] = true := by decide +kernel
theorem t5_41 : tree 5 (lawC 5) 4 4 [0, 1] [(false, 2), (false, 3), (true, 3), (true, 2), (true, 1), (true, 0)] = true := by decide +kernel
theorem t5_37 : tree 5 (lawC 5) 5 4 [0, 1, 2] [(false, 3), (true, 3), (true, 2), (true, 1), (true, 0)] = true := node_true (fun _ => t5_38) (fun i h => match i, h with | 0, _ => t5_39 | 1, _ => t5_40 | 2, _ => t5_41 | n + 3, h => absurd h (by simp))
theorem t5_15 : tree 5 (lawC 5) 6 4 [0, 1, 2, 3] [(true, 3), (true, 2), (true, 1), (true, 0)] = true := node_true (fun _ => t5_16) (fun i h => match i, h with | 0, _ => t5_22 | 1, _ => t5_27 | 2, _ => t5_32 | 3, _ => t5_37 | n + 4, h => absurd h (by simp))
theorem t5_44 : tree 5 (lawC 5) 4 5 [1, 2, 3, 4] [(true, 4), (true, 3), (false, 0), (true, 2), (true, 1), (true, 0)] = true := by decide +kernel
theorem t5_45 : tree 5 (lawC 5) 4 4 [2, 3] [(false, 1), (true, 3), (false, 0), (true, 2), (true, 1), (true, 0)] = true := by decide +kernel
theorem t5_46 : tree 5 (lawC 5) 4 4 [1, 3] [(false, 2), (true, 3), (false, 0), (true, 2), (true, 1), (true, 0)] = true := by decide +kernel
theorem t5_47 : tree 5 (lawC 5) 4 4 [1, 2] [(false, 3), (true, 3), (false, 0), (true, 2), (true, 1), (true, 0)] = true := by decide +kernel
theorem t5_43 : tree 5 (lawC 5) 5 4 [1, 2, 3] [(true, 3), (false, 0), (true, 2), (true, 1), (true, 0)] = true := node_true (fun _ => t5_44) (fun i h => match i, h with | 0, _ => t5_45 | 1, _ => t5_46 | 2, _ => t5_47 | n + 3, h => absurd h (by simp))
theorem t5_48 : tree 5 (lawC 5) 5 3 [2] [(false, 1), (false, 0), (true, 2), (true, 1), (true, 0)] = true := by decide +kernel
theorem t5_49 : tree 5 (lawC 5) 5 3 [1] [(false, 2), (false, 0), (true, 2), (true, 1), (true, 0)] = true := by decide +kernel
theorem t5_42 : tree 5 (lawC 5) 6 3 [1, 2] [(false, 0), (true, 2), (true, 1), (true, 0)] = true := node_true (fun _ => t5_43) (fun i h => match i, h with | 0, _ => t5_48 | 1, _ => t5_49 | n + 2, h => absurd h (by simp))
theorem t5_52 : tree 5 (lawC 5) 4 5 [0, 2, 3, 4] [(true, 4), (true, 3), (false, 1), (true, 2), (true, 1), (true, 0)] = true := by decide +kernel
theorem t5_53 : tree 5 (lawC 5) 4 4 [2, 3] [(false, 0), (true, 3), (false, 1), (true, 2), (true, 1), (true, 0)] = true := by decide +kernel
theorem t5_54 : tree 5 (lawC 5) 4 4 [0, 3] [(false, 2), (true, 3), (false, 1), (true, 2), (true, 1), (true, 0)] = true := by decide +kernel
theorem t5_55 : tree 5 (lawC 5) 4 4 [0, 2] [(false, 3), (true, 3), (false, 1), (true, 2), (true, 1), (true, 0)] = true := by decide +kernel
theorem t5_51 : tree 5 (lawC 5) 5 4 [0, 2, 3] [(true, 3), (false, 1), (true, 2), (true, 1), (true, 0)] = true := node_true (fun _ => t5_52) (fun i h => match i, h with | 0, _ => t5_53 | 1, _ => t5_54 | 2, _ => t5_55 | n + 3, h => absurd h (by simp))
theorem t5_56 : tree 5 (lawC 5) 5 3 [2] [(false, 0), (false, 1), (true, 2), (true, 1), (true, 0)] = true := by decide +kernel
theorem t5_57 : tree 5 (lawC 5) 5 3 [0] [(false, 2), (false, 1), (true, 2), (true, 1), (true, 0)] = true := by decide +kernel
theorem t5_50 : tree 5 (lawC 5) 6 3 [0, 2] [(false, 1), (true, 2), (true, 1), (true, 0)] = true := node_true (fun _ => t5_51) (fun i h => match i, h with | 0, _ => t5_56 | 1, _ => t5_57 | n + 2, h => absurd h (by simp))
theorem t5_60 : tree 5 (lawC 5) 4 5 [0, 1, 3, 4] [(true, 4), (true, 3), (false, 2), (true, 2), (true, 1), (true, 0)] = true := by decide +kernel
theorem t5_61 : tree 5 (lawC 5) 4 4 [1, 3] [(false, 0), (true, 3), (false, 2), (true, 2), (true, 1), (true, 0)] = true := by decide +kernel
theorem t5_62 : tree 5 (lawC 5) 4 4 [0, 3] [(false, 1), (true, 3), (false, 2), (true, 2), (true, 1), (true, 0)] = true := by decide +kernel
theorem t5_63 : tree 5 (lawC 5) 4 4 [0, 1] [(false, 3), (true, 3), (false, 2), (true, 2), (true, 1), (true, 0)] = true := by decide +kernel
theorem t5_59 : tree 5 (lawC 5) 5 4 [0, 1, 3] [(true, 3), (false, 2), (true, 2), (true, 1), (true, 0)] = true := node_true (fun _ => t5_60) (fun i h => match i, h with | 0, _ => t5_61 | 1, _ => t5_62 | 2, _ => t5_63 | n + 3, h => absurd h (by simp))
theorem t5_64 : tree 5 (lawC 5) 5 3 [1] [(false, 0), (false, 2), (true, 2), (true, 1), (true, 0)] = true := by decide +kernel
theorem t5_65 : tree 5 (lawC 5) 5 3 [0] [(false, 1), (false, 2), (true, 2), (true, 1), (true, 0)] = true := by decide +kernel
theorem t5_58 : tree 5 (lawC 5) 6 3 [0, 1] [(false, 2), (true, 2), (true, 1), (true, 0)] = true := node_true (fun _ => t5_59) (fun i h => match i, h with | 0, _ => t5_64 | 1, _ => t5_65 | n + 2, h => absurd h (by simp))
theorem t5_14 : tree 5 (lawC 5) 7 3 [0, 1, 2] [(true, 2), (true, 1), (true, 0)] = true := node_true (fun _ => t5_15) (fun i h => match i, h with | 0, _ => t5_42 | 1, _ => t5_50 | 2, _ => t5_58 | n + 3, h => absurd h (by simp))
theorem t5_69 : tree 5 (lawC 5) 4 5 [1, 2, 3, 4] [(true, 4), (true, 3), (true, 2), (false, 0), (true, 1), (true, 0)] = true := by decide +kernel
theorem t5_70 : tree 5 (lawC 5) 4 4 [2, 3] [(false, 1), (true, 3), (true, 2), (false, 0), (true, 1), (true, 0)] = true := by decide +kernel
theorem t5_71 : tree 5 (lawC 5) 4 4 [1, 3] [(false, 2), (true, 3), (true, 2), (false, 0), (true, 1), (true, 0)] = true := by decide +kernel
theorem t5_72 : tree 5 (lawC 5) 4 4 [1, 2] [(false, 3), (true, 3), (true, 2), (false, 0), (true, 1), (true, 0)] = true := by decide +kernel
theorem t5_68 : tree 5 (lawC 5) 5 4 [1, 2, 3] [(true, 3), (true, 2), (false, 0), (true, 1), (true, 0)] = true := node_true (fun _ => t5_69) (fun i h => match i, h with | 0, _ => t5_70 | 1, _ => t5_71 | 2, _ => t5_72 | n + 3, h => absurd h (by simp))
theorem t5_73 : tree 5 (lawC 5) 5 3 [2] [(false, 1), (true, 2), (false, 0), (true, 1), (true, 0)] = true := by decide +kernel
theorem t5_74 : tree 5 (lawC 5) 5 3 [1] [(false, 2), (true, 2), (false, 0), (true, 1), (true, 0)] = true := by decide +kernel
theorem t5_67 : tree 5 (lawC 5) 6 3 [1, 2] [(true, 2), (false, 0), (true, 1), (true, 0)] = true := node_true (fun _ => t5_68) (fun i h => match i, h with | 0, _ => t5_73 | 1, _ => t5_74 | n + 2, h => absurd h (by simp))
theorem t5_75 : tree 5 (lawC 5) 6 2 [] [(false, 1), (false, 0), (true, 1), (true, 0)] = true := by decide +kernel
theorem t5_66 : tree 5 (lawC 5) 7 2 [1] [(false, 0), (true, 1), (true, 0)] = true := node_true (fun _ => t5_67) (fun i h => match i, h with | 0, _ => t5_75 | n + 1, h => absurd h (by simp))
theorem t5_79 : tree 5 (lawC 5) 4 5 [0, 2, 3, 4] [(true, 4), (true, 3), (true, 2), (false, 1), (true, 1), (true, 0)] = true := by decide +kernel
theorem t5_80 : tree 5 (lawC 5) 4 4 [2, 3] [(false, 0), (true, 3), (true, 2), (false, 1), (true, 1), (true, 0)] = true := by decide +kernel
theorem t5_81 : tree 5 (lawC 5) 4 4 [0, 3] [(false, 2), (true, 3), (true, 2), (false, 1), (true, 1), (true, 0)] = true := by decide +kernel
theorem t5_82 : tree 5 (lawC 5) 4 4 [0, 2] [(false, 3), (true, 3), (true, 2), (false, 1), (true, 1), (true, 0)] = true := by decide +kernel
theorem t5_78 : tree 5 (lawC 5) 5 4 [0, 2, 3] [(true, 3), (true, 2), (false, 1), (true, 1), (true, 0)] = true := node_true (fun _ => t5_79) (fun i h => match i, h with | 0, _ => t5_80 | 1, _ => t5_81 | 2, _ => t5_82 | n + 3, h => absurd h (by simp))
theorem t5_83 : tree 5 (lawC 5) 5 3 [2] [(false, 0), (true, 2), (false, 1), (true, 1), (true, 0)] = true := by decide +kernel
theorem t5_84 : tree 5 (lawC 5) 5 3 [0] [(false, 2), (true, 2), (false, 1), (true, 1), (true, 0)] = true := by decide +kernel
theorem t5_77 : tree 5 (lawC 5) 6 3 [0, 2] [(true, 2), (false, 1), (true, 1), (true, 0)] = true := node_true (fun _ => t5_78) (fun i h => match i, h with | 0, _ => t5_83 | 1, _ => t5_84 | n + 2, h => absurd h (by simp))
theorem t5_85 : tree 5 (lawC 5) 6 2 [] [(false, 0), (false, 1), (true, 1), (true, 0)] = true := by decide +kernel
theorem t5_76 : tree 5 (lawC 5) 7 2 [0] [(false, 1), (true, 1), (true, 0)] = true := node_true (fun _ => t5_77) (fun i h => match i, h with | 0, _ => t5_85 | n + 1, h => absurd h (by simp))
theorem t5_13 : tree 5 (lawC 5) 8 2 [0, 1] [(true, 1), (true, 0)] = true := node_true (fun _ => t5_14) (fun i h => match i, h with | 0, _ => t5_66 | 1, _ => t5_76 | n + 2, h => absurd h (by simp))
theorem t5_90 : tree 5 (lawC 5) 4 5 [1, 2, 3, 4] [(true, 4), (true, 3), (true, 2), (true, 1), (false, 0), (true, 0)] = true := by decide +kernel
theorem t5_91 : tree 5 (lawC 5) 4 4 [2, 3] [(false, 1), (true, 3), (true, 2), (true, 1), (false, 0), (true, 0)] = true := by decide +kernel
theorem t5_92 : tree 5 (lawC 5) 4 4 [1, 3] [(false, 2), (true, 3), (true, 2), (true, 1), (false, 0), (true, 0)] = true := by decide +kernel
theorem t5_93 : tree 5 (lawC 5) 4 4 [1, 2] [(false, 3), (true, 3), (true, 2), (true, 1), (false, 0), (true, 0)] = true := by decide +kernel
theorem t5_89 : tree 5 (lawC 5) 5 4 [1, 2, 3] [(true, 3), (true, 2), (true, 1), (false, 0), (true, 0)] = true := node_true (fun _ => t5_90) (fun i h => match i, h with | 0, _ => t5_91 | 1, _ => t5_92 | 2, _ => t5_93 | n + 3, h => absurd h (by simp))
theorem t5_94 : tree 5 (lawC 5) 5 3 [2] [(false, 1), (true, 2), (true, 1), (false, 0), (true, 0)] = true := by decide +kernel
theorem t5_95 : tree 5 (lawC 5) 5 3 [1] [(false, 2), (true, 2), (true, 1), (false, 0), (true, 0)] = true := by decide +kernel
theorem t5_88 : tree 5 (lawC 5) 6 3 [1, 2] [(true, 2), (true, 1), (false, 0), (true, 0)] = true := node_true (fun _ => t5_89) (fun i h => match i, h with | 0, _ => t5_94 | 1, _ => t5_95 | n + 2, h => absurd h (by simp))
theorem t5_96 : tree 5 (lawC 5) 6 2 [] [(false, 1), (true, 1), (false, 0), (true, 0)] = true := by decide +kernel
theorem t5_87 : tree 5 (lawC 5) 7 2 [1] [(true, 1), (false, 0), (true, 0)] = true := node_true (fun _ => t5_88) (fun i h => match i, h with | 0, _ => t5_96 | n + 1, h => absurd h (by simp))
theorem t5_86 : tree 5 (lawC 5) 8 1 [] [(false, 0), (true, 0)] = true := node_true (fun _ => t5_87) (fun i h => absurd h (by simp))
theorem t5_12 : tree 5 (lawC 5) 9 1 [0] [(true, 0)] = true := node_true (fun _ => t5_13) (fun i h => match i, h with | 0, _ => t5_86 | n + 1, h => absurd h (by simp))
theorem t5_11 : tree 5 (lawC 5) 10 0 [] [] = true := node_true (fun _ => t5_12) (fun i h => absurd h (by simp))
theorem law_plain (size : Nat) (steps : List (Bool × Int)) (h : size = 4 ∨ size = 5) (hs : steps ∈ seqsFrom size (2 * size) 0 []) : ∃ turned other, LawOk size steps turned other := by
  rcases h with rfl | rfl
  · exact lawC_true (by simpa using tree_true t4_0 steps hs)
  · exact lawC_true (by simpa using tree_true t5_11 steps hs)

theorem well_list {P : Params} {h : Heap} {l : Addr} {d : WData} {xs : List WData} (e : d = .list xs) (W : Well P h (.ref l) d) : ∃ vs : List Value, h.get? l = some { cls := .type "list", data := .seq vs.toArray } := by
  cases W with
  | list h _ => exact ⟨_, h⟩
  | _ => cases e
theorem law_close {w : World} {s₁ : Shared} {mg mb : Str → Option Value} {fa l : Addr} {vs vs' : List Value} {ns : List Int} (KX : (hd.heap_39 w.params).In s₁.heap) (g : s₁.heap.Ns mainGlobals mg) (b : s₁.heap.Ns builtinsNs mb)
    (nl : s₁.heap.NoLimit) (nd : ∃ mc, s₁.heap.Ns cStatics mc ∧ mc "sys.int_max_str_digits" = none) (bl : ∀ x : Str, x ≠ "__name__" → mb x = bootBuiltins x) (sr : s₁.heap.NoSeer) (hmg : mg "law" = some (.ref fa))
    (hL : s₁.heap.IsList l vs.toArray) (hW : s₁.heap.get? l = some { cls := .type "list", data := .seq vs'.toArray }) (hI : IntsAre vs ns) (hn : ns.length < 900)
    (hP : ∀ size steps, size = 4 ∨ size = 5 → steps ∈ seqsFrom size (2 * size) 0 [] → ∃ turned other, LawOk size steps turned other)
    (hF : ∀ fns, DrawnFns fns → fns.length ≤ 5 → FnsOk fns) {Q : Value → Shared → Prop} {E : Value → Shared → Prop}
    (k : ∀ h' tk, (∀ a o, s₁.heap.get? a = some o → h'.get? a = some o) → Q (.bool true) { s₁ with heap := h', toks := tk }) : wpAny (model P0 w) callerA (PySem.call (.ref fa) [.ref l]) Q E s₁ := by
  obtain ⟨_, ⟨osys, _, _, hsys, _⟩, _⟩ := sr.mods
  have ok : GC.Ok { prog := P0, w := w, h₀ := s₁.heap, s₀ := s₁, mg := mg, mb := mb } :=
    ⟨g, b, nl, nd, bl, freeOf_in (G := { prog := P0, w := w, h₀ := s₁.heap, s₀ := s₁, mg := mg, mb := mb }) KX g, Heap.lt_size hsys, by show (s₁.heap.get? sysModules).isSome = true; rw [hsys]; rfl⟩
  have F : Fns { prog := P0, w := w, h₀ := s₁.heap, s₀ := s₁, mg := mg, mb := mb } := fnsOf (G := { prog := P0, w := w, h₀ := s₁.heap, s₀ := s₁, mg := mg, mb := mb }) KX g
  have S := law_ok (n := 0) (Q := fun d _ => d = .bool true) F hn hP hF (fun _ => rfl)
  obtain ⟨fa', o, fd, h1, h2, h3, h4⟩ := S
  have e : fa' = fa := by
    have h1' : mg "law" = some (.ref fa') := h1
    rw [hmg] at h1'; cases h1'; rfl
  subst e
  obtain ⟨ol, hol, hcls, n, hdat⟩ := hL
  have he : ol = { cls := .type "list", data := .seq vs'.toArray } := by rw [hW] at hol; cases hol; rfl
  subst he
  have hvs : vs' = vs := by injection hdat with e1 e2; simpa using e1
  subst hvs
  have hz : ∀ a o, up (fun _ => none) l ({ cls := .type "list", data := .seq vs'.toArray } : Obj) a = some o → s₁.heap.get? a = some o := fun a o e => by
    unfold up at e
    split at e
    · rename_i ha; subst ha; cases e; exact hW
    · cases e
  refine wpAny_mono (h4 callerA (fun a => s₁.heap.get? a) (up (fun _ => none) l ({ cls := .type "list", data := .seq vs'.toArray } : Obj)) s₁ [.ref l] ⟨rfl, by decide, by decide⟩ ok
    ⟨⟨s₁.heap, s₁.toks, rfl⟩, fun _ _ e => e, fun _ _ e => e, hz, fun r m e => by cases e⟩ ?_) (fun v s' hq => ?_) fun _ _ x => x.elim
  · simp only [VL, V]
    exact ⟨_, _, rfl, ⟨l, vs', _, 0, rfl, up_self .., rfl, rfl, rfl, VL.ofIntsAre hI⟩, rfl⟩
  · obtain ⟨fz', d, H', _, R, hv, hd⟩ := hq
    subst hd
    simp only [V] at hv
    subst hv
    obtain ⟨h', tk, rfl⟩ := R.same
    exact k h' tk fun a o e => R.kept a o e

end Mine
open PySem PySem.W PyProof.Rows
theorem PySem.Challenge.cw_xg0048_01_holds : PySem.Challenge.rw_xg0048_01.Holds := by
  refine Mine.hd ?_
  k_fill
  intro w s₀ s₁ mg mb G Y fa o pm cd doc dV kV ho hd hcd hD hmg hg args vals as hpre hlay hrd hwl hlo
  have KX := kIn_of Y
  refine Ground.open G ?_
  intro T B D TE TW
  wrow_args hpre hlay hrd hwl hlo
  rename_i ns hs hlay0 hL1 hr1 hl2 w4 w3 l vs w0 hL ra W r0 hI hr hcond hcond2
  obtain ⟨vs', hW⟩ := Mine.well_list rfl W
  refine Mine.law_close KX T.g T.b T.nolimit T.nodigits T.builtins (T.seer rfl) hmg hL hW hI (by lia) Mine.law_plain (fun fns h hl => Mine.fns_ok h hl) fun h' tk hk => ?_
  exact ⟨.inl ⟨_, _, [], rfl, fun _ => rfl, ReadsW.bool true, by wrow_post, fun _ => ⟨List.nodup_nil, fun _ hm => (nomatch hm)⟩⟩, .of_keep hk, rfl, .of_eq hg⟩
