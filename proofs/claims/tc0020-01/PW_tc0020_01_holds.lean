import PyProof.Rows.All
import Wide.All
import OpenK.AllK
import Wide.FinOn
import PyProof.Walk
import PyProof.WalkLemmas
import PyProof.Meets
import PyProof.IsiBase
import PyProof.IsiH_list
import PyProof.FactsAll.list
import PyProof.SliceMore
import Lean
import PySem.Challenge.RW_tc0020_01
open PySem PySem.W PyProof.Rows
set_option Elab.async false
set_option genSizeOf false
set_option genSizeOfSpec false
set_option genInjectivity false
set_option compiler.extract_closed false
set_option maxRecDepth 100000
set_option maxHeartbeats 8000000
set_option linter.unusedVariables false
set_option linter.unusedSectionVars false
set_option linter.unusedSimpArgs false

namespace Mine
section
local macro_rules | `(tactic| o_head $H) => `(tactic| (have hh : Hook := $H; assumption))
theorem pre (x : PySem.Challenge.rw_tc0020_01.row.Holds) : PySem.Challenge.rw_tc0020_01.row.Holds := by k_head
end
noncomputable def asL : List Addr := [2, 3, 15, 17, 18, 20, 21, 22, 24, 25, 27, 28, 29, 31, 32, 34, 35, 36, 38, 39, 41, 42, 43, 45, 46, 48, 49, 50, 52, 53, 55, 56, 57, 59, 60, 62, 63, 64, 66, 67, 69, 70, 71, 73, 74, 76, 77, 78, 80, 81, 83, 84, 85, 87, 88, 90, 91, 92, 94, 95, 97, 98, 99, 101, 102, 104, 105, 106, 108, 109, 111, 112, 113, 115, 116, 118, 119, 120, 123, 124, 125, 127, 128, 130, 131, 132, 135, 136, 137, 139, 140, 142, 143, 144, 147, 148, 149, 151, 152, 154, 155, 156, 159, 160]
theorem asE : ∀ P, asL = (pre.heap_1 P).map (·.1) := fun _ => by kernel_rfl
end Mine

namespace Mine
local macro_rules | `(tactic| omega) => `(tactic| lia)

/-- abstract values -/
inductive PV where
  | none
  | bool (b : Bool)
  | int (i : Int)
  | str (s : PySem.Str)
  | list (xs : List PV)
  | tup (xs : List PV)

noncomputable def PV.imm : PV → Bool
  | .list _ => false
  | .tup _ => false
  | _ => true

noncomputable abbrev HLe (h h' : Heap) : Prop := ∀ b o, h.get? b = some o → h'.get? b = some o

/-- which text a token was made for -/
noncomputable abbrev Lab := Nat → Option PySem.Str
noncomputable abbrev LLe (l l' : Lab) : Prop := ∀ (t : Nat) x, l t = some x → l' t = some x

mutual
inductive VRep (V : Addr → Prop) (l : Lab) (h : Heap) : Value → PV → Prop
  | none : VRep V l h .none .none
  | bool (b : Bool) : VRep V l h (.bool b) (.bool b)
  | int (i : Int) (t : Tok) : VRep V l h (.int i t) (.int i)
  | str (x : PySem.Str) (t : Tok) : l t = some x → VRep V l h (.str x t) (.str x)
  | list {a : Addr} {vs : List Value} {xs : List PV} : V a → h.PlainList a vs.toArray → VReps V l h vs xs → VRep V l h (.ref a) (.list xs)
  | tup {a : Addr} {vs : List Value} {xs : List PV} : V a → IsTup h a vs.toArray → VReps V l h vs xs → VRep V l h (.ref a) (.tup xs)
inductive VReps (V : Addr → Prop) (l : Lab) (h : Heap) : List Value → List PV → Prop
  | nil : VReps V l h [] []
  | cons {v : Value} {x : PV} {vs : List Value} {xs : List PV} : VRep V l h v x → VReps V l h vs xs → VReps V l h (v :: vs) (x :: xs)
end

/-- what a value of a kind is -/
noncomputable def Shape (V : Addr → Prop) (l : Lab) (h : Heap) (v : Value) : PV → Prop
  | .none => v = .none
  | .bool b => v = .bool b
  | .int i => ∃ t, v = .int i t
  | .str x => ∃ t, v = .str x t ∧ l t = some x
  | .list xs => ∃ a us, v = .ref a ∧ V a ∧ h.PlainList a us.toArray ∧ VReps V l h us xs
  | .tup xs => ∃ a us, v = .ref a ∧ V a ∧ IsTup h a us.toArray ∧ VReps V l h us xs
noncomputable def Shapes (V : Addr → Prop) (l : Lab) (h : Heap) (vs : List Value) : List PV → Prop
  | [] => vs = []
  | x :: xs => ∃ v us, vs = v :: us ∧ VRep V l h v x ∧ VReps V l h us xs
theorem VRep.shape {V : Addr → Prop} {l : Lab} {h : Heap} {v : Value} {x : PV} (r : VRep V l h v x) : Shape V l h v x :=
  VRep.casesOn (motive_1 := fun v x _ => Shape V l h v x) r rfl (fun _ => rfl) (fun _ t => ⟨t, rfl⟩) (fun _ t e => ⟨t, rfl, e⟩) (fun ha hp hs => ⟨_, _, rfl, ha, hp, hs⟩) (fun ha hp hs => ⟨_, _, rfl, ha, hp, hs⟩)
theorem VReps.shape {V : Addr → Prop} {l : Lab} {h : Heap} {vs : List Value} {xs : List PV} (r : VReps V l h vs xs) : Shapes V l h vs xs :=
  VReps.casesOn (motive_2 := fun vs xs _ => Shapes V l h vs xs) r rfl (fun hv hs => ⟨_, _, rfl, hv, hs⟩)
theorem VReps.one {V : Addr → Prop} {l : Lab} {h : Heap} {vs : List Value} {x : PV} (r : VReps V l h vs [x]) : ∃ v, vs = [v] ∧ VRep V l h v x :=
  let ⟨v, us, e, hv, hs⟩ := r.shape; ⟨v, e.trans (congrArg (v :: ·) hs.shape), hv⟩
theorem VReps.two {V : Addr → Prop} {l : Lab} {h : Heap} {vs : List Value} {x y : PV} (r : VReps V l h vs [x, y]) : ∃ v u, vs = [v, u] ∧ VRep V l h v x ∧ VRep V l h u y :=
  let ⟨v, _, e, hv, hs⟩ := r.shape; let ⟨u, e2, hu⟩ := hs.one; ⟨v, u, e.trans (congrArg (v :: ·) e2), hv, hu⟩
theorem VReps.three {V : Addr → Prop} {l : Lab} {h : Heap} {vs : List Value} {x y z : PV} (r : VReps V l h vs [x, y, z]) : ∃ v u w, vs = [v, u, w] ∧ VRep V l h v x ∧ VRep V l h u y ∧ VRep V l h w z :=
  let ⟨v, _, e, hv, hs⟩ := r.shape; let ⟨u, w, e2, hu, hw⟩ := hs.two; ⟨v, u, w, e.trans (congrArg (v :: ·) e2), hv, hu, hw⟩

structure TokOk (l : Lab) (s : Shared) : Prop where
  pos : 0 < s.toks
  lt : ∀ (t : Nat) x, l t = some x → t ≠ 0 ∧ t < s.toks

/-- an object that is no code table and no code record -/
noncomputable def NotCode (o : Obj) : Prop := (∀ vs, o.data ≠ .fields vs) ∨ (o.cls ≠ .none ∧ ∃ vs, o.data = .fields vs ∧ ∀ x t, vs[1]? ≠ some (.str x t))

/-- the world of the proof -/
structure Wd where
  prog : Program
  w : World
  K : Frag
  loose : List PySem.Str
  mean : ExcName → Option Value
  mg : PySem.Str → Option Value
  mb : PySem.Str → Option Value
  tabs : List Addr
  TI : Heap → Prop
  ti_le : ∀ {h h' : Heap}, HLe h h' → TI h → TI h'
  ti_but : ∀ {h h' : Heap} {a : Addr} {o : Obj}, h.get? a = some o → NotCode o → Heap.ExtBut a h h' → TI h → TI h'
  ti_tab : ∀ {h : Heap}, TI h → ∀ P ∈ tabs, ∃ ps, h.get? P = some (tabObj ps)
  GI : Heap → Prop

noncomputable abbrev Wd.M (W : Wd) : Model := model W.prog W.w

structure Glob (W : Wd) (g : Heap) : Prop where
  inK : W.K.In g
  top : Top topProg W.loose W.mean W.mg W.mb g
  notab : ∀ P ∈ W.tabs, g.get? P = none
  gi : W.GI g

structure Base (W : Wd) (g : Heap) (l : Lab) (s : Shared) : Prop where
  gl : Glob W g
  le : HLe g s.heap
  ti : W.TI s.heap
  tok : TokOk l s

/-- the heap's part of a step -/
structure Ext0 (W : Wd) (s s' : Shared) : Prop where
  same : ∃ h tk, s' = { s with heap := h, toks := tk }
  keep : ∀ b o, b ∉ W.tabs → s.heap.get? b = some o → s'.heap.get? b = some o
  ti : W.TI s'.heap

theorem Ext0.refl {W : Wd} {s : Shared} (ti : W.TI s.heap) : Ext0 W s s := ⟨⟨s.heap, s.toks, rfl⟩, fun _ _ _ e => e, ti⟩
theorem Ext0.trans {W : Wd} {s s' s'' : Shared} (x : Ext0 W s s') (y : Ext0 W s' s'') : Ext0 W s s'' := by
  obtain ⟨h1, t1, e1⟩ := x.same
  obtain ⟨h2, t2, e2⟩ := y.same
  exact ⟨⟨h2, t2, by rw [e2, e1]⟩, fun b o hb e => y.keep b o hb (x.keep b o hb e), y.ti⟩
theorem Ext0.of_le {W : Wd} {s : Shared} {h' : Heap} {tk : Nat} (ti : W.TI s.heap) (k : HLe s.heap h') : Ext0 W s { s with heap := h', toks := tk } :=
  ⟨⟨h', tk, rfl⟩, fun b o _ e => k b o e, W.ti_le k ti⟩
theorem Ext0.tok {W : Wd} {s : Shared} {tk : Nat} (ti : W.TI s.heap) : Ext0 W s { s with toks := tk } := ⟨⟨s.heap, tk, rfl⟩, fun _ _ _ e => e, ti⟩
theorem Ext0.push {W : Wd} {s : Shared} {o : Obj} {tk : Nat} (ti : W.TI s.heap) : Ext0 W s { s with heap := s.heap.push o, toks := tk } :=
  Ext0.of_le ti fun _ _ e => Heap.get?_push_of_some _ e

structure Ext (W : Wd) (l : Lab) (s : Shared) (l' : Lab) (s' : Shared) : Prop extends Ext0 W s s' where
  ll : LLe l l'
  tk : TokOk l' s'

theorem Ext.refl {W : Wd} {l : Lab} {s : Shared} (ti : W.TI s.heap) (tk : TokOk l s) : Ext W l s l s := ⟨Ext0.refl ti, fun _ _ e => e, tk⟩
theorem Ext.trans {W : Wd} {l l' l'' : Lab} {s s' s'' : Shared} (x : Ext W l s l' s') (y : Ext W l' s' l'' s'') : Ext W l s l'' s'' :=
  ⟨x.toExt0.trans y.toExt0, fun t z e => y.ll t z (x.ll t z e), y.tk⟩
theorem TokOk.up {l : Lab} {s s' : Shared} (x : TokOk l s) (h : s.toks ≤ s'.toks) : TokOk l s' :=
  ⟨Nat.lt_of_lt_of_le x.pos h, fun t y e => ⟨(x.lt t y e).1, Nat.lt_of_lt_of_le (x.lt t y e).2 h⟩⟩
theorem Ext0.up {W : Wd} {l : Lab} {s s' : Shared} (x : Ext0 W s s') (tk : TokOk l s) (h : s.toks ≤ s'.toks) : Ext W l s l s' := ⟨x, fun _ _ e => e, tk.up h⟩

theorem Ext.next {W : Wd} {l : Lab} {s : Shared} (ti : W.TI s.heap) (tk : TokOk l s) : Ext W l s l { s with toks := s.toks + 1 } := (Ext0.tok ti).up tk (Nat.le_succ _)
theorem Ext.push {W : Wd} {l : Lab} {s : Shared} {o : Obj} (ti : W.TI s.heap) (tk : TokOk l s) : Ext W l s l { s with heap := s.heap.push o } := (Ext0.push ti).up tk (Nat.le_refl _)
/-- a new text's label -/
noncomputable def Lab.add (l : Lab) (t : Nat) (x : PySem.Str) : Lab := fun u => if u = t then some x else l u
theorem Lab.add_self (l : Lab) (t : Nat) (x : PySem.Str) : l.add t x t = some x := by simp [Lab.add]
theorem Lab.le_add {l : Lab} {s : Shared} (tk : TokOk l s) {t : Nat} {x : PySem.Str} (h : s.toks ≤ t) : LLe l (l.add t x) := fun u y e => by
  have := (tk.lt u y e).2
  have hne : (u : Nat) ≠ t := by omega
  simp [Lab.add, hne, e]
theorem TokOk.add {l : Lab} {s s' : Shared} (tk : TokOk l s) {t : Nat} {x : PySem.Str} (h : s.toks ≤ t) (h' : t < s'.toks) : TokOk (l.add t x) s' :=
  ⟨by omega, fun u y e => by
    by_cases hu : (u : Nat) = t
    · subst hu; have := tk.pos; exact ⟨by omega, h'⟩
    · simp [Lab.add, hu] at e; have := tk.lt u y e; exact ⟨this.1, by omega⟩⟩

/-- one new text -/
theorem Ext.text {W : Wd} {l : Lab} {s : Shared} {x : PySem.Str} (ti : W.TI s.heap) (tk : TokOk l s) : Ext W l s (l.add s.toks x) { s with toks := s.toks + 1 } :=
  ⟨Ext0.tok ti, Lab.le_add tk (Nat.le_refl _), tk.add (Nat.le_refl _) (Nat.lt_succ_self _)⟩

theorem Base.ext {W : Wd} {g : Heap} {l l' : Lab} {s s' : Shared} (x : Base W g l s) (y : Ext W l s l' s') : Base W g l' s' :=
  ⟨x.gl, fun b o e => y.keep b o (fun hb => by rw [x.gl.notab b hb] at e; cases e) (x.le b o e), y.ti, y.tk⟩

/-- room for d nested calls -/
structure Rm (d : Nat) (A : Around) : Prop where
  hd : A.handled = none
  dep : A.depth + d < recursionLimit
  un : A.units + 16 * d + 2000 < cLine

theorem Rm.deeper {d : Nat} {A : Around} (x : Rm (d + 1) A) (env : Env) : Rm d (A.deeper env) :=
  ⟨x.hd, by have := x.dep; show A.depth + 1 + d < recursionLimit; omega, by have := x.un; show A.units + 3 + 16 * d + 2000 < cLine; omega⟩
theorem Rm.le {d d' : Nat} {A : Around} (x : Rm d A) (h : d' ≤ d) : Rm d' A :=
  ⟨x.hd, by have := x.dep; omega, by have := x.un; omega⟩
theorem Rm.depth {d : Nat} {A : Around} (x : Rm (d + 1) A) : A.depth < recursionLimit := by have := x.dep; omega
theorem Rm.units {d : Nat} {A : Around} (x : Rm d A) : A.units + 1000 < cLine := by have := x.un; omega

section rep
variable {W : Wd} {V V' : Addr → Prop} {l l' : Lab} {h h' : Heap}

/-- lists and tuples survive -/
theorem isList_of {a : Addr} {its : Array Value} (x : h.IsList a its) (e : ∀ o, h.get? a = some o → h'.get? a = some o) : h'.IsList a its :=
  let ⟨o, ho, r⟩ := x; ⟨o, e o ho, r⟩
theorem isTup_of {a : Addr} {its : Array Value} (x : IsTup h a its) (e : ∀ o, h.get? a = some o → h'.get? a = some o) : IsTup h' a its :=
  let ⟨o, ho, r⟩ := x; ⟨o, e o ho, r⟩

section
variable (hV : ∀ a, V a → V' a) (hl' : LLe l l') (k : ∀ a o, V a → (o.cls = .type "list" ∨ o.cls = .type "tuple") → (∃ its n, o.data = .seq its n) → h.get? a = some o → h'.get? a = some o)
include hV hl' k
theorem tup_on {a : Addr} {its : Array Value} (ha : V a) (x : IsTup h a its) : IsTup h' a its := let ⟨o, ho, hc, n, hd⟩ := x; ⟨o, k _ o ha (.inr hc) ⟨_, n, hd⟩ ho, hc, n, hd⟩
theorem list_on {a : Addr} {its : Array Value} (ha : V a) (x : h.PlainList a its) : h'.PlainList a its := let ⟨n, ho⟩ := x; ⟨n, k _ _ ha (.inl rfl) ⟨_, n, rfl⟩ ho⟩
/-- a value goes on to a later heap: the objects of lists and tuples in V are kept -/
theorem VRep.mono {v : Value} {x : PV} (r : VRep V l h v x) : VRep V' l' h' v x :=
  VRep.rec (motive_1 := fun v x _ => VRep V' l' h' v x) (motive_2 := fun vs xs _ => VReps V' l' h' vs xs) .none .bool .int (fun x t e => .str x t (hl' _ _ e))
    (fun ha hp _ ih => .list (hV _ ha) (list_on hV hl' k ha hp) ih) (fun ha hp _ ih => .tup (hV _ ha) (tup_on hV hl' k ha hp) ih) .nil (fun _ _ ih jh => .cons ih jh) r
theorem VReps.mono {vs : List Value} {xs : List PV} (r : VReps V l h vs xs) : VReps V' l' h' vs xs :=
  VReps.rec (motive_1 := fun v x _ => VRep V' l' h' v x) (motive_2 := fun vs xs _ => VReps V' l' h' vs xs) .none .bool .int (fun x t e => .str x t (hl' _ _ e))
    (fun ha hp _ ih => .list (hV _ ha) (list_on hV hl' k ha hp) ih) (fun ha hp _ ih => .tup (hV _ ha) (tup_on hV hl' k ha hp) ih) .nil (fun _ _ ih jh => .cons ih jh) r
end

theorem seq_notab {a : Addr} {o : Obj} (ti : W.TI h) (ho : h.get? a = some o) (hd : ∃ its n, o.data = .seq its n) : a ∉ W.tabs := fun hm => by
  obtain ⟨ps, e⟩ := W.ti_tab ti a hm
  obtain ⟨its, n, hd⟩ := hd
  rw [ho] at e; cases e; cases hd

theorem VRep.ext {s s' : Shared} {v : Value} {x : PV} (r : VRep V l s.heap v x) (ti : W.TI s.heap) (e : Ext W l s l' s') (hV : ∀ a, V a → V' a) : VRep V' l' s'.heap v x :=
  r.mono hV e.ll fun a o _ _ hd ho => e.keep a o (seq_notab ti ho hd) ho
theorem VReps.ext {s s' : Shared} {v : List Value} {x : List PV} (r : VReps V l s.heap v x) (ti : W.TI s.heap) (e : Ext W l s l' s') (hV : ∀ a, V a → V' a) : VReps V' l' s'.heap v x :=
  r.mono hV e.ll fun a o _ _ hd ho => e.keep a o (seq_notab ti ho hd) ho
theorem VRep.wid {v : Value} {x : PV} (r : VRep V l h v x) (hV : ∀ a, V a → V' a) : VRep V' l h v x := r.mono hV (fun _ _ e => e) fun _ _ _ _ _ e => e
theorem VReps.wid {v : List Value} {x : List PV} (r : VReps V l h v x) (hV : ∀ a, V a → V' a) : VReps V' l h v x := r.mono hV (fun _ _ e => e) fun _ _ _ _ _ e => e
theorem VRep.le {v : Value} {x : PV} (r : VRep V l h v x) (k : HLe h h') : VRep V l h' v x := r.mono (fun _ e => e) (fun _ _ e => e) fun a o _ _ _ e => k a o e
theorem VReps.le {v : List Value} {x : List PV} (r : VReps V l h v x) (k : HLe h h') : VReps V l h' v x := r.mono (fun _ e => e) (fun _ _ e => e) fun a o _ _ _ e => k a o e

theorem VRep.of_imm {v : Value} {x : PV} (r : VRep V l h v x) (hi : x.imm = true) : VRep V' l h' v x := by
  have q := r.shape
  cases x with
  | none => rw [show v = .none from q]; exact .none
  | bool b => rw [show v = .bool b from q]; exact .bool b
  | int i => exact let ⟨t, e⟩ := q; e ▸ .int i t
  | str x => exact let ⟨t, e, e2⟩ := q; e ▸ .str x t e2
  | list => exact nomatch hi
  | tup => exact nomatch hi
/-- lists of values, by their shapes -/
theorem VReps.ind {V : Addr → Prop} {l : Lab} {h : Heap} {P : List Value → List PV → Prop} (h0 : P [] []) (h1 : ∀ {v x vs xs}, VRep V l h v x → VReps V l h vs xs → P vs xs → P (v :: vs) (x :: xs)) : ∀ {xs : List PV} {vs : List Value}, VReps V l h vs xs → P vs xs
  | [], _, r => (show _ = [] from r.shape) ▸ h0
  | _ :: _, _, r => let ⟨_, _, e, hv, hs⟩ := r.shape; e ▸ h1 hv hs (VReps.ind h0 h1 hs)
theorem VReps.of_imm {vs : List Value} {xs : List PV} (r : VReps V l h vs xs) : (∀ x ∈ xs, x.imm = true) → VReps V' l h' vs xs :=
  r.ind (P := fun vs xs => (∀ x ∈ xs, x.imm = true) → VReps V' l h' vs xs) (fun _ => .nil) fun hv _ ih hi => .cons (hv.of_imm (hi _ (.head _))) (ih fun x hx => hi x (.tail _ hx))
theorem VReps.length {vs : List Value} {xs : List PV} (r : VReps V l h vs xs) : vs.length = xs.length :=
  r.ind (P := fun vs xs => vs.length = xs.length) rfl fun _ _ ih => congrArg (· + 1) ih
theorem VReps.get {vs : List Value} {xs : List PV} (r : VReps V l h vs xs) : ∀ (i : Nat) {x : PV}, xs[i]? = some x → ∃ v, vs[i]? = some v ∧ VRep V l h v x :=
  r.ind (P := fun vs xs => ∀ (i : Nat) {x : PV}, xs[i]? = some x → ∃ v, vs[i]? = some v ∧ VRep V l h v x) (fun _ _ e => nomatch e) fun {v z _ _} hv _ ih i {y} e => by
    cases i with
    | zero => exact ⟨v, rfl, (show z = y from Option.some.inj e) ▸ hv⟩
    | succ i => exact ih i e
theorem VReps.get' {vs : List Value} {xs : List PV} (r : VReps V l h vs xs) : ∀ (i : Nat) {v : Value}, vs[i]? = some v → ∃ x, xs[i]? = some x ∧ VRep V l h v x :=
  r.ind (P := fun vs xs => ∀ (i : Nat) {v : Value}, vs[i]? = some v → ∃ x, xs[i]? = some x ∧ VRep V l h v x) (fun _ _ e => nomatch e) fun {z x _ _} hv _ ih i {y} e => by
    cases i with
    | zero => exact ⟨x, rfl, (show z = y from Option.some.inj e) ▸ hv⟩
    | succ i => exact ih i e
theorem VReps.append {vs us : List Value} {xs ys : List PV} (r : VReps V l h vs xs) (r2 : VReps V l h us ys) : VReps V l h (vs ++ us) (xs ++ ys) :=
  r.ind (P := fun vs xs => VReps V l h (vs ++ us) (xs ++ ys)) r2 fun hv _ ih => .cons hv ih
theorem VReps.reverse {vs : List Value} {xs : List PV} (r : VReps V l h vs xs) : VReps V l h vs.reverse xs.reverse :=
  r.ind (P := fun vs xs => VReps V l h vs.reverse xs.reverse) .nil fun hv _ ih => by rw [List.reverse_cons, List.reverse_cons]; exact ih.append (.cons hv .nil)
theorem VReps.set {vs : List Value} {xs : List PV} {v : Value} {x : PV} (r : VReps V l h vs xs) (q : VRep V l h v x) : ∀ n, VReps V l h (vs.set n v) (xs.set n x) :=
  r.ind (P := fun vs xs => ∀ n, VReps V l h (vs.set n v) (xs.set n x)) (fun _ => .nil) fun hv hs ih n => Nat.casesOn (motive := fun n => VReps V l h (List.set _ n v) (List.set _ n x)) n (.cons q hs) fun n => .cons hv (ih n)
end rep

noncomputable abbrev Fresh (s : Shared) : Addr → Prop := fun a => s.heap.get? a = none

theorem fresh_of_ext {W : Wd} {s s' : Shared} (e : Ext0 W s s') : ∀ a, Fresh s' a → Fresh s a := fun a ha => by
  cases q : s.heap.get? a with
  | none => exact q
  | some o =>
    by_cases hm : a ∈ W.tabs
    · obtain ⟨ps, e2⟩ := W.ti_tab e.ti a hm
      rw [show s'.heap.get? a = none from ha] at e2; cases e2
    · have e3 := e.keep a o hm q
      rw [show s'.heap.get? a = none from ha] at e3; cases e3


/-- a tree that makes no text: its labels stay -/
theorem wp_ext {W : Wd} {A : Around} {α : Type} {t : Sem α} {l : Lab} {s : Shared} {E : Value → Shared → Prop} {Q : α → Shared → Prop} (tk : TokOk l s)
    (h : wpAny W.M A t (fun v s' => Ext0 W s s' ∧ Q v s') (fun e s' => E e s') s) : wpAny W.M A t (fun v s' => ∃ l', Ext W l s l' s' ∧ l' = l ∧ Q v s') E s :=
  wpAny_mono (wpAny_toks_of (n := s.toks) (Nat.le_refl _) h) (fun v s' q => ⟨l, q.2.1.up tk q.1, rfl, q.2.2⟩) fun _ _ q => q.2
end Mine

namespace Mine
local macro_rules | `(tactic| omega) => `(tactic| lia)

noncomputable abbrev Loc := PySem.Str → Option PV

/-- a name's value, read in a heap -/
inductive Reads1 (env : Env) (h : Heap) (x : PySem.Str) (v : Value) : Prop
  | loc {m : PySem.Str → Option Value} : env.kindOf x = some .local → h.Ns env.locals m → m x = some v → Reads1 env h x v
  | cell {c : Addr} : (env.kindOf x = some .cell ∨ env.kindOf x = some .free) → env.cells.lookup x = some c → h.IsCell c (some v) → Reads1 env h x v

structure EnvFn (env : Env) : Prop where
  kind : env.scope.kind = .function
  gl : env.globals = mainGlobals
  bu : env.builtins = builtinsNs

structure EnvOk (env : Env) (σ : Loc) (V : Addr → Prop) (l : Lab) (h : Heap) : Prop where
  fn : EnvFn env
  names : ∀ x pv, σ x = some pv → ∃ v, Reads1 env h x v ∧ VRep V l h v pv

theorem dict_notab {W : Wd} {h : Heap} {a : Addr} {m : PySem.Str → Option Value} (ti : W.TI h) (hn : h.Ns a m) : a ∉ W.tabs := fun hm => by
  obtain ⟨ps, e⟩ := W.ti_tab ti a hm
  obtain ⟨o, es, ep, ho, hd, _⟩ := hn
  rw [ho] at e; cases e; cases hd
theorem cell_notab {W : Wd} {h : Heap} {a : Addr} {v : Option Value} (ti : W.TI h) (hn : h.IsCell a v) : a ∉ W.tabs := fun hm => by
  obtain ⟨ps, e⟩ := W.ti_tab ti a hm
  obtain ⟨o, ho, hd⟩ := hn
  rw [ho] at e; cases e; cases hd

theorem ns_ext {W : Wd} {s s' : Shared} {a : Addr} {m : PySem.Str → Option Value} (hn : s.heap.Ns a m) (ti : W.TI s.heap) (e : Ext0 W s s') : s'.heap.Ns a m := by
  have nt := dict_notab ti hn
  obtain ⟨o, es, ep, ho, r⟩ := hn
  exact ⟨o, es, ep, e.keep a o nt ho, r⟩
theorem cell_ext {W : Wd} {s s' : Shared} {a : Addr} {v : Option Value} (hn : s.heap.IsCell a v) (ti : W.TI s.heap) (e : Ext0 W s s') : s'.heap.IsCell a v := by
  have nt := cell_notab ti hn
  obtain ⟨o, ho, r⟩ := hn
  exact ⟨o, e.keep a o nt ho, r⟩

theorem Reads1.ext {W : Wd} {env : Env} {s s' : Shared} {x : PySem.Str} {v : Value} (r : Reads1 env s.heap x v) (ti : W.TI s.heap) (e : Ext0 W s s') : Reads1 env s'.heap x v := by
  cases r with
  | loc h1 h2 h3 => exact .loc h1 (ns_ext h2 ti e) h3
  | cell h1 h2 h3 => exact .cell h1 h2 (cell_ext h3 ti e)

theorem EnvOk.ext {W : Wd} {env : Env} {σ : Loc} {V : Addr → Prop} {l l' : Lab} {s s' : Shared} (x : EnvOk env σ V l s.heap) (ti : W.TI s.heap) (e : Ext W l s l' s') : EnvOk env σ V l' s'.heap :=
  ⟨x.fn, fun y pv hy => let ⟨v, h1, h2⟩ := x.names y pv hy; ⟨v, h1.ext ti e.toExt0, h2.ext ti e fun _ q => q⟩⟩

theorem EnvOk.wid {env : Env} {σ : Loc} {V V' : Addr → Prop} {l : Lab} {h : Heap} (x : EnvOk env σ V l h) (hV : ∀ a, V a → V' a) : EnvOk env σ V' l h :=
  ⟨x.fn, fun y pv hy => let ⟨v, h1, h2⟩ := x.names y pv hy; ⟨v, h1, h2.wid hV⟩⟩

/-- the value e gets: pv, seen in V or new -/
noncomputable def EvT (W : Wd) (d : Nat) (env : Env) (σ : Loc) (t : Sem Value) (pv : PV) : Prop :=
  ∀ (g : Heap) (l : Lab) (V : Addr → Prop) (A : Around) (s : Shared) (E : Value → Shared → Prop), Rm d A → Base W g l s → EnvOk env σ V l s.heap →
    wpAny W.M A t (fun v s' => ∃ l', Ext W l s l' s' ∧ VRep (fun a => V a ∨ Fresh s a) l' s'.heap v pv) E s
/-- the value e gets: pv, all new -/
noncomputable def EvTN (W : Wd) (d : Nat) (env : Env) (σ : Loc) (t : Sem Value) (pv : PV) : Prop :=
  ∀ (g : Heap) (l : Lab) (V : Addr → Prop) (A : Around) (s : Shared) (E : Value → Shared → Prop), Rm d A → Base W g l s → EnvOk env σ V l s.heap →
    wpAny W.M A t (fun v s' => ∃ l', Ext W l s l' s' ∧ VRep (Fresh s) l' s'.heap v pv) E s
noncomputable abbrev Ev (W : Wd) (d : Nat) (env : Env) (σ : Loc) (e : Expr) (pv : PV) : Prop := EvT W d env σ (eval e env) pv
noncomputable abbrev EvN (W : Wd) (d : Nat) (env : Env) (σ : Loc) (e : Expr) (pv : PV) : Prop := EvTN W d env σ (eval e env) pv
/-- truth -/
noncomputable def EvB (W : Wd) (d : Nat) (env : Env) (σ : Loc) (e : Expr) (b : Bool) : Prop :=
  ∀ (g : Heap) (l : Lab) (V : Addr → Prop) (A : Around) (s : Shared) (E : Value → Shared → Prop), Rm d A → Base W g l s → EnvOk env σ V l s.heap →
    wpAny W.M A (isTrue e env (eval e env)) (fun c s' => ∃ l', Ext W l s l' s' ∧ c = b) E s
/-- arguments, one after another -/
noncomputable def EvL (W : Wd) (d : Nat) (env : Env) (σ : Loc) (es : List Expr) (pvs : List PV) : Prop :=
  ∀ (pos : Pos) (g : Heap) (l : Lab) (V : Addr → Prop) (A : Around) (s : Shared) (E : Value → Shared → Prop), Rm d A → Base W g l s → EnvOk env σ V l s.heap →
    wpAny W.M A (spliced (backTo pos (starEach es env))) (fun vs s' => ∃ l', Ext W l s l' s' ∧ VReps (fun a => V a ∨ Fresh s a) l' s'.heap vs pvs) E s
noncomputable def EvLN (W : Wd) (d : Nat) (env : Env) (σ : Loc) (es : List Expr) (pvs : List PV) : Prop :=
  ∀ (pos : Pos) (g : Heap) (l : Lab) (V : Addr → Prop) (A : Around) (s : Shared) (E : Value → Shared → Prop), Rm d A → Base W g l s → EnvOk env σ V l s.heap →
    wpAny W.M A (spliced (backTo pos (starEach es env))) (fun vs s' => ∃ l', Ext W l s l' s' ∧ VReps (Fresh s) l' s'.heap vs pvs) E s

section
variable {W : Wd} {d : Nat} {env : Env} {σ : Loc}

theorem EvTN.ev {t : Sem Value} {pv : PV} (h : EvTN W d env σ t pv) : EvT W d env σ t pv := fun g l V A s E hR hB hE =>
  wpAny_mono (h g l V A s E hR hB hE) (fun v s' ⟨l', q⟩ => ⟨l', q.1, q.2.wid fun _ x => .inr x⟩) fun _ _ x => x
theorem EvT.imm {t : Sem Value} {pv : PV} (h : EvT W d env σ t pv) (hi : pv.imm = true) : EvTN W d env σ t pv := fun g l V A s E hR hB hE =>
  wpAny_mono (h g l V A s E hR hB hE) (fun v s' ⟨l', q⟩ => ⟨l', q.1, q.2.of_imm hi⟩) fun _ _ x => x
theorem EvLN.ev {t : List Expr} {pv : List PV} (h : EvLN W d env σ t pv) : EvL W d env σ t pv := fun pos g l V A s E hR hB hE =>
  wpAny_mono (h pos g l V A s E hR hB hE) (fun v s' ⟨l', q⟩ => ⟨l', q.1, q.2.wid fun _ x => .inr x⟩) fun _ _ x => x

/-- more names, more room: no harm -/
theorem EvT.le {t : Sem Value} {pv : PV} {d' : Nat} (h : EvT W d env σ t pv) (hd : d ≤ d') : EvT W d' env σ t pv := fun g l V A s E hR hB hE => h g l V A s E (hR.le hd) hB hE
theorem EvTN.le {t : Sem Value} {pv : PV} {d' : Nat} (h : EvTN W d env σ t pv) (hd : d ≤ d') : EvTN W d' env σ t pv := fun g l V A s E hR hB hE => h g l V A s E (hR.le hd) hB hE

theorem EvT.name {x : PySem.Str} {pos : Pos} {pv : PV} (hx : σ x = some pv) (hd : (x == ("__debug__" : PySem.Str)) = false) (hc : (x == ("__classdict__" : PySem.Str)) = false) : Ev W d env σ (.Name x pos) pv := by
  intro g l V A s E hR hB hE
  obtain ⟨v, hr, hv⟩ := hE.names x pv hx
  refine wpAny_Name ?_ hd
  have q : ∃ l', Ext W l s l' s ∧ VRep (fun a => V a ∨ Fresh s a) l' s.heap v pv := ⟨l, Ext.refl hB.ti hB.tok, hv.wid fun _ x => .inl x⟩
  cases hr with
  | loc h1 h2 h3 => exact wpAny_loadName_local hE.fn.kind h1 h2 h3 q
  | cell h1 h2 h3 =>
    rcases h1 with h1 | h1
    · exact wpAny_loadName_cell hE.fn.kind h1 h2 h3 q
    · exact wpAny_loadName_free hE.fn.kind h1 h2 h3 q hc

/-- a global name, a value of its own -/
structure GNm (W : Wd) (env : Env) (x : PySem.Str) (v : Value) : Prop where
  kind : env.kindOf x = some .globalImplicit
  hd : (x == ("__debug__" : PySem.Str)) = false
  val : W.mg x = some v ∨ (W.mg x = none ∧ W.mb x = some v)

theorem GNm.load {x : PySem.Str} {v : Value} {pos : Pos} (G : GNm W env x v) {g : Heap} {V : Addr → Prop} {A : Around} {s : Shared} {E : Value → Shared → Prop} {Q : Value → Shared → Prop} (hB : Base W g l s) (hE : EnvOk env σ V l s.heap) (q : Q v s) :
    wpAny W.M A (eval (.Name x pos) env) Q E s := by
  have hg : s.heap.Ns env.globals W.mg := by rw [hE.fn.gl]; exact hB.gl.top.g.keeps hB.le
  have hb : s.heap.Ns env.builtins W.mb := by rw [hE.fn.bu]; exact hB.gl.top.b.keeps hB.le
  refine Calls.Name_function_global hE.fn.kind G.kind ?_ G.hd
  rcases G.val with h | ⟨h1, h2⟩
  · exact Calls.loadGlobal_global hg h q
  · exact Calls.loadGlobal_builtin hg h1 hb h2 q

theorem EvTN.global {x : PySem.Str} {v : Value} {pos : Pos} {pv : PV} (G : GNm W env x v) (hv : ∀ V l h, VRep V l h v pv) : EvN W d env σ (.Name x pos) pv :=
  fun g l V A s E hR hB hE => G.load hB hE ⟨l, Ext.refl hB.ti hB.tok, hv _ _ _⟩

theorem EvTN.cint {i : Int} {k : Nat} {pos : Pos} : EvN W d env σ (.Constant (.int i) k pos) (.int i) :=
  fun g l V A s E hR hB hE => wpAny_Constant_int ⟨_, Ext.next hB.ti hB.tok, .int _ _⟩
theorem EvTN.cstr {x : PySem.Str} {k : Nat} {pos : Pos} : EvN W d env σ (.Constant (.str x) k pos) (.str x) :=
  fun g l V A s E hR hB hE => wpAny_Constant_str ⟨_, Ext.text hB.ti hB.tok, .str _ _ (Lab.add_self ..)⟩
theorem EvTN.cnone {k : Nat} {pos : Pos} : EvN W d env σ (.Constant .none k pos) .none :=
  fun g l V A s E hR hB hE => wpAny_Constant_none ⟨l, Ext.refl hB.ti hB.tok, .none⟩
theorem EvTN.cbool {b : Bool} {k : Nat} {pos : Pos} : EvN W d env σ (.Constant (.bool b) k pos) (.bool b) :=
  fun g l V A s E hR hB hE => wpAny_Constant_bool ⟨l, Ext.refl hB.ti hB.tok, .bool _⟩

/-- a step upon values -/
noncomputable def Op1 (W : Wd) (d : Nat) (t : Value → Sem Value) (a r : PV) : Prop :=
  ∀ (g : Heap) (l : Lab) (V : Addr → Prop) (A : Around) (s : Shared) (E : Value → Shared → Prop) (va : Value), Rm d A → Base W g l s → VRep V l s.heap va a →
    wpAny W.M A (t va) (fun v s' => ∃ l', Ext W l s l' s' ∧ VRep (Fresh s) l' s'.heap v r) E s
noncomputable def Op2 (W : Wd) (d : Nat) (t : Value → Value → Sem Value) (a b r : PV) : Prop :=
  ∀ (g : Heap) (l : Lab) (V : Addr → Prop) (A : Around) (s : Shared) (E : Value → Shared → Prop) (va vb : Value), Rm d A → Base W g l s → VRep V l s.heap va a → VRep V l s.heap vb b →
    wpAny W.M A (t va vb) (fun v s' => ∃ l', Ext W l s l' s' ∧ VRep (Fresh s) l' s'.heap v r) E s

theorem EvTN.binop {op : Operator} {l r : Expr} {pos : Pos} {a b c : PV} (hl : Ev W d env σ l a) (hr : Ev W d env σ r b) (ho : Op2 W d (binaryOp op) a b c) : EvN W d env σ (.BinOp l op r pos) c := by
  intro g l V A s E hR hB hE
  refine wpAny_BinOp (wpAny_mono (hl g l V A s E hR hB hE) (fun va s₁ q₁ => ?_) fun _ _ x => x)
  obtain ⟨l₁, q₁⟩ := q₁
  have hB₁ := hB.ext q₁.1
  refine wpAny_mono (hr g l₁ V A s₁ E hR hB₁ (hE.ext hB.ti q₁.1)) (fun vb s₂ q₂ => ?_) fun _ _ x => x
  obtain ⟨l₂, q₂⟩ := q₂
  have hB₂ := hB₁.ext q₂.1
  refine wpAny_mono (ho g l₂ (fun a => V a ∨ Fresh s a) A s₂ E va vb hR hB₂ (q₁.2.ext hB₁.ti q₂.1 fun _ x => x) (q₂.2.wid fun a x => x.imp id (fresh_of_ext q₁.1.toExt0 a))) (fun v s₃ q₃ => ?_) fun _ _ x => x
  obtain ⟨l₃, q₃⟩ := q₃
  exact ⟨_, (q₁.1.trans q₂.1).trans q₃.1, q₃.2.wid fun a x => fresh_of_ext (q₁.1.trans q₂.1).toExt0 a x⟩

theorem EvTN.cmp {op : CmpOp} {l r : Expr} {pos : Pos} {a b c : PV} (hl : Ev W d env σ l a) (hr : Ev W d env σ r b) (ho : Op2 W d (compareOp op) a b c) (hm : behindInMarks op r = false) : EvN W d env σ (.Compare l [op] [r] pos) c := by
  intro g l V A s E hR hB hE
  refine wpAny_Compare1 (wpAny_mono (hl g l V A s E hR hB hE) (fun va s₁ q₁ => ?_) fun _ _ x => x) hm
  obtain ⟨l₁, q₁⟩ := q₁
  have hB₁ := hB.ext q₁.1
  refine wpAny_mono (hr g l₁ V A s₁ E hR hB₁ (hE.ext hB.ti q₁.1)) (fun vb s₂ q₂ => ?_) fun _ _ x => x
  obtain ⟨l₂, q₂⟩ := q₂
  have hB₂ := hB₁.ext q₂.1
  refine wpAny_mono (ho g l₂ (fun a => V a ∨ Fresh s a) A s₂ E va vb hR hB₂ (q₁.2.ext hB₁.ti q₂.1 fun _ x => x) (q₂.2.wid fun a x => x.imp id (fresh_of_ext q₁.1.toExt0 a))) (fun v s₃ q₃ => ?_) fun _ _ x => x
  obtain ⟨l₃, q₃⟩ := q₃
  exact ⟨_, (q₁.1.trans q₂.1).trans q₃.1, q₃.2.wid fun a x => fresh_of_ext (q₁.1.trans q₂.1).toExt0 a x⟩

theorem EvTN.unop {op : UnaryOp} {x : Expr} {pos : Pos} {a c : PV} (hl : Ev W d env σ x a) (ho : Op1 W d (unaryOp op) a c) : EvN W d env σ (.UnaryOp op x pos) c := by
  intro g l V A s E hR hB hE
  refine wpAny_UnaryOp (wpAny_mono (hl g l V A s E hR hB hE) (fun va s₁ q₁ => ?_) fun _ _ x => x)
  obtain ⟨l₁, q₁⟩ := q₁
  have hB₁ := hB.ext q₁.1
  refine wpAny_mono (ho g l₁ (fun a => V a ∨ Fresh s a) A s₁ E va hR hB₁ q₁.2) (fun v s₃ q₃ => ?_) fun _ _ x => x
  obtain ⟨l₃, q₃⟩ := q₃
  exact ⟨_, q₁.1.trans q₃.1, q₃.2.wid fun a x => fresh_of_ext q₁.1.toExt0 a x⟩

/-- truth of a value -/
noncomputable def Truth (W : Wd) (d : Nat) (a : PV) (b : Bool) : Prop :=
  ∀ (g : Heap) (l : Lab) (V : Addr → Prop) (A : Around) (s : Shared) (E : Value → Shared → Prop) (va : Value), Rm d A → Base W g l s → VRep V l s.heap va a →
    wpAny W.M A (truthy va) (fun c s' => ∃ l', Ext W l s l' s' ∧ c = b) E s

theorem EvTN.ite {test body orelse : Expr} {pos : Pos} {b : Bool} {c : PV} (ht : EvB W d env σ test b) (h1 : b = true → EvN W d env σ body c) (h2 : b = false → EvN W d env σ orelse c) : EvN W d env σ (.IfExp test body orelse pos) c := by
  intro g l V A s E hR hB hE
  refine wpAny_IfExp (wpAny_mono (ht g l V A s E hR hB hE) (fun c' s₁ q₁ => ?_) fun _ _ x => x)
  obtain ⟨l₁, q₁⟩ := q₁
  obtain ⟨q₁, rfl⟩ := q₁
  have hB₁ := hB.ext q₁
  have hE₁ := hE.ext hB.ti q₁
  cases c' with
  | true => exact wpAny_mono (h1 rfl g l₁ V A s₁ E hR hB₁ hE₁) (fun v s₃ ⟨_, q₃⟩ => ⟨_, q₁.trans q₃.1, q₃.2.wid fun a x => fresh_of_ext q₁.toExt0 a x⟩) fun _ _ x => x
  | false => exact wpAny_mono (h2 rfl g l₁ V A s₁ E hR hB₁ hE₁) (fun v s₃ ⟨_, q₃⟩ => ⟨_, q₁.trans q₃.1, q₃.2.wid fun a x => fresh_of_ext q₁.toExt0 a x⟩) fun _ _ x => x

theorem EvTN.and2 {x y : Expr} {pos : Pos} {a c : PV} {b : Bool} (hx : EvN W d env σ x a) (ht : Truth W d a b) (h1 : b = true → EvN W d env σ y c) (h2 : b = false → c = a) : EvN W d env σ (.BoolOp .And [x, y] pos) c := by
  intro g l V A s E hR hB hE
  refine wpAny_And2 (wpAny_mono (hx g l V A s E hR hB hE) (fun v s₁ q₁ => ?_) fun _ _ x => x)
  obtain ⟨l₁, q₁⟩ := q₁
  have hB₁ := hB.ext q₁.1
  refine wpAny_mono (ht g l₁ _ A s₁ E v hR hB₁ q₁.2) (fun c' s₂ q₂ => ?_) fun _ _ x => x
  obtain ⟨l₂, q₂⟩ := q₂
  obtain ⟨q₂, rfl⟩ := q₂
  have e2 := q₁.1.trans q₂
  cases c' with
  | true => exact wpAny_mono (h1 rfl g l₂ V A s₂ E hR (hB₁.ext q₂) (hE.ext hB.ti e2)) (fun v s₃ ⟨_, q₃⟩ => ⟨_, e2.trans q₃.1, q₃.2.wid fun a x => fresh_of_ext e2.toExt0 a x⟩) fun _ _ x => x
  | false => have e := h2 rfl; subst e; exact ⟨_, e2, q₁.2.ext hB₁.ti q₂ fun _ x => x⟩
theorem EvTN.or2 {x y : Expr} {pos : Pos} {a c : PV} {b : Bool} (hx : EvN W d env σ x a) (ht : Truth W d a b) (h1 : b = false → EvN W d env σ y c) (h2 : b = true → c = a) : EvN W d env σ (.BoolOp .Or [x, y] pos) c := by
  intro g l V A s E hR hB hE
  refine wpAny_Or2 (wpAny_mono (hx g l V A s E hR hB hE) (fun v s₁ q₁ => ?_) fun _ _ x => x)
  obtain ⟨l₁, q₁⟩ := q₁
  have hB₁ := hB.ext q₁.1
  refine wpAny_mono (ht g l₁ _ A s₁ E v hR hB₁ q₁.2) (fun c' s₂ q₂ => ?_) fun _ _ x => x
  obtain ⟨l₂, q₂⟩ := q₂
  obtain ⟨q₂, rfl⟩ := q₂
  have e2 := q₁.1.trans q₂
  cases c' with
  | false => exact wpAny_mono (h1 rfl g l₂ V A s₂ E hR (hB₁.ext q₂) (hE.ext hB.ti e2)) (fun v s₃ ⟨_, q₃⟩ => ⟨_, e2.trans q₃.1, q₃.2.wid fun a x => fresh_of_ext e2.toExt0 a x⟩) fun _ _ x => x
  | true => have e := h2 rfl; subst e; exact ⟨_, e2, q₁.2.ext hB₁.ti q₂ fun _ x => x⟩

/-! truth of expressions -/
theorem EvB.val {e : Expr} {a : PV} {b : Bool} (h : Ev W d env σ e a) (ht : Truth W d a b) (he : ∀ whole, isTrue e env whole = (do let v ← whole; standAt e.pos; holding [v] (truthy v))) : EvB W d env σ e b := by
  intro g l V A s E hR hB hE
  refine isTrue_plain (wpAny_mono (h g l V A s E hR hB hE) (fun v s₁ q₁ => ?_) fun _ _ x => x) (he _)
  obtain ⟨l₁, q₁⟩ := q₁
  refine wpAny_mono (ht g l₁ _ A s₁ E v hR (hB.ext q₁.1) q₁.2) (fun c' s₂ q₂ => ?_) fun _ _ x => x
  obtain ⟨l₂, q₂⟩ := q₂
  exact ⟨_, q₁.1.trans q₂.1, q₂.2⟩
theorem Truth.bool {b : Bool} : Truth W d (.bool b) b := fun g l V A s E va hR hB hv => by
  cases hv; exact wpAny_truthy_bool ⟨l, Ext.refl hB.ti hB.tok, rfl⟩
theorem Truth.none : Truth W d .none false := fun g l V A s E va hR hB hv => by
  cases hv; exact truthy_none ⟨l, Ext.refl hB.ti hB.tok, rfl⟩

theorem EvB.cmp {op : CmpOp} {l r : Expr} {pos : Pos} {a b : PV} {c : Bool} (hl : Ev W d env σ l a) (hr : Ev W d env σ r b) (ho : Op2 W d (compareOp op) a b (.bool c)) (hm : behindInMarks op r = false) : EvB W d env σ (.Compare l [op] [r] pos) c := by
  intro g l V A s E hR hB hE
  refine wpAny_isTrue_Compare1 (wpAny_mono (hl g l V A s E hR hB hE) (fun va s₁ q₁ => ?_) fun _ _ x => x) hm
  obtain ⟨l₁, q₁⟩ := q₁
  have hB₁ := hB.ext q₁.1
  refine wpAny_mono (hr g l₁ V A s₁ E hR hB₁ (hE.ext hB.ti q₁.1)) (fun vb s₂ q₂ => ?_) fun _ _ x => x
  obtain ⟨l₂, q₂⟩ := q₂
  have hB₂ := hB₁.ext q₂.1
  refine wpAny_mono (ho g l₂ (fun a => V a ∨ Fresh s a) A s₂ E va vb hR hB₂ (q₁.2.ext hB₁.ti q₂.1 fun _ x => x) (q₂.2.wid fun a x => x.imp id (fresh_of_ext q₁.1.toExt0 a))) (fun v s₃ q₃ => ?_) fun _ _ x => x
  obtain ⟨l₃, q₃⟩ := q₃
  obtain ⟨e3, q3⟩ := q₃
  cases q3
  exact wpAny_truthy_bool ⟨_, (q₁.1.trans q₂.1).trans e3, rfl⟩

theorem EvB.not {x : Expr} {pos : Pos} {b : Bool} (h : EvB W d env σ x b) : EvB W d env σ (.UnaryOp .Not x pos) (!b) := fun g l V A s E hR hB hE =>
  isTrue_not (wpAny_mono (h g l V A s E hR hB hE) (fun c s' ⟨_, q⟩ => ⟨_, q.1, by rw [q.2]⟩) fun _ _ x => x)
theorem EvB.and_nil {pos : Pos} : EvB W d env σ (.BoolOp .And [] pos) true := fun g l V A s E hR hB hE => isTrue_and_nil ⟨l, Ext.refl hB.ti hB.tok, rfl⟩
theorem EvB.or_nil {pos : Pos} : EvB W d env σ (.BoolOp .Or [] pos) false := fun g l V A s E hR hB hE => isTrue_or_nil ⟨l, Ext.refl hB.ti hB.tok, rfl⟩
theorem isTrue_boolop_whole {op : BoolOp} {xs : List Expr} {pos : Pos} (w1 w2 : Sem Value) : isTrue (.BoolOp op xs pos) env w1 = isTrue (.BoolOp op xs pos) env w2 := rfl
theorem EvB.and {x : Expr} {rest : List Expr} {pos : Pos} {b c : Bool} (h : EvB W d env σ x b) (h2 : b = true → EvB W d env σ (.BoolOp .And rest pos) c) : EvB W d env σ (.BoolOp .And (x :: rest) pos) (b && c) := by
  intro g l V A s E hR hB hE
  refine isTrue_and (wpAny_mono (h g l V A s E hR hB hE) (fun c' s₁ q₁ => ?_) fun _ _ x => x)
  obtain ⟨l₁, q₁⟩ := q₁
  obtain ⟨q₁, rfl⟩ := q₁
  cases c' with
  | true =>
    rw [if_pos rfl, isTrue_boolop_whole _ (eval (.BoolOp .And rest pos) env)]
    exact wpAny_mono (h2 rfl g l₁ V A s₁ E hR (hB.ext q₁) (hE.ext hB.ti q₁)) (fun c s' ⟨_, q⟩ => ⟨_, q₁.trans q.1, by simpa using q.2⟩) fun _ _ x => x
  | false => exact ⟨_, q₁, rfl⟩
theorem EvB.or {x : Expr} {rest : List Expr} {pos : Pos} {b c : Bool} (h : EvB W d env σ x b) (h2 : b = false → EvB W d env σ (.BoolOp .Or rest pos) c) : EvB W d env σ (.BoolOp .Or (x :: rest) pos) (b || c) := by
  intro g l V A s E hR hB hE
  refine isTrue_or (wpAny_mono (h g l V A s E hR hB hE) (fun c' s₁ q₁ => ?_) fun _ _ x => x)
  obtain ⟨l₁, q₁⟩ := q₁
  obtain ⟨q₁, rfl⟩ := q₁
  cases c' with
  | false =>
    simp only [Bool.false_eq_true, if_false]
    rw [isTrue_boolop_whole _ (eval (.BoolOp .Or rest pos) env)]
    exact wpAny_mono (h2 rfl g l₁ V A s₁ E hR (hB.ext q₁) (hE.ext hB.ti q₁)) (fun c s' ⟨_, q⟩ => ⟨_, q₁.trans q.1, by simpa using q.2⟩) fun _ _ x => x
  | true => exact ⟨_, q₁, rfl⟩

/-- a chain of two comparisons -/
theorem EvB.chain2 {op₁ op₂ : CmpOp} {l r₁ r₂ : Expr} {pos : Pos} {a b c : PV} {x y : Bool} (hl : Ev W d env σ l a) (h1 : Ev W d env σ r₁ b) (ho₁ : Op2 W d (compareOp op₁) a b (.bool x))
    (h2 : x = true → Ev W d env σ r₂ c) (ho₂ : x = true → Op2 W d (compareOp op₂) b c (.bool y)) (hm : lastMarks [op₁, op₂] [r₁, r₂] = false) : EvB W d env σ (.Compare l [op₁, op₂] [r₁, r₂] pos) (x && y) := by
  intro g l V A s E hR hB hE
  refine isTrue_chain (wpAny_mono (hl g l V A s E hR hB hE) (fun va s₁ q₁ => ?_) fun _ _ x => x) hm
  obtain ⟨l₁, q₁⟩ := q₁
  have hB₁ := hB.ext q₁.1
  refine test_link (wpAny_mono (h1 g l₁ V A s₁ E hR hB₁ (hE.ext hB.ti q₁.1)) (fun vb s₂ q₂ => ?_) fun _ _ x => x)
  obtain ⟨l₂, q₂⟩ := q₂
  have hB₂ := hB₁.ext q₂.1
  have hvb := q₂.2.wid (V' := fun a => V a ∨ Fresh s a) fun a x => x.imp id (fresh_of_ext q₁.1.toExt0 a)
  refine wpAny_mono (ho₁ g l₂ (fun a => V a ∨ Fresh s a) A s₂ E va vb hR hB₂ (q₁.2.ext hB₁.ti q₂.1 fun _ x => x) hvb) (fun v s₃ q₃ => ?_) fun _ _ x => x
  obtain ⟨l₃, q₃⟩ := q₃
  obtain ⟨e3, q3⟩ := q₃
  cases q3
  have e13 := (q₁.1.trans q₂.1).trans e3
  refine wpAny_truthy_bool ?_
  cases x with
  | false => exact ⟨_, e13, rfl⟩
  | true =>
    have hB₃ := hB.ext e13
    refine test_last (wpAny_mono (h2 rfl g l₃ V A s₃ E hR hB₃ (hE.ext hB.ti e13)) (fun vc s₄ q₄ => ?_) fun _ _ x => x)
    obtain ⟨l₄, q₄⟩ := q₄
    refine wpAny_mono (ho₂ rfl g l₄ (fun a => V a ∨ Fresh s a) A s₄ E vb vc hR (hB₃.ext q₄.1) (hvb.ext hB₂.ti (e3.trans q₄.1) fun _ x => x) (q₄.2.wid fun a x => x.imp id (fresh_of_ext e13.toExt0 a))) (fun v s₅ q₅ => ?_) fun _ _ x => x
    obtain ⟨l₅, q₅⟩ := q₅
    obtain ⟨e5, q5⟩ := q₅
    cases q5
    exact wpAny_truthy_bool ⟨_, (e13.trans q₄.1).trans e5, by simp⟩

/-! lists of arguments -/
theorem EvL.nil : EvL W d env σ [] [] := fun pos g l V A s E hR hB hE => wpAny_items_nil ⟨l, Ext.refl hB.ti hB.tok, .nil⟩
theorem EvL.cons {e : Expr} {rest : List Expr} {x : PV} {xs : List PV} (h : Ev W d env σ e x) (hs : EvL W d env σ rest xs) (he : starEach (e :: rest) env = (false, eval e env) :: starEach rest env) : EvL W d env σ (e :: rest) (x :: xs) := by
  intro pos g l V A s E hR hB hE
  refine wpAny_items_cons (wpAny_mono (h g l V A s E hR hB hE) (fun va s₁ q₁ => ?_) fun _ _ x => x) he
  obtain ⟨l₁, q₁⟩ := q₁
  refine wpAny_mono (hs pos g l₁ V A s₁ E hR (hB.ext q₁.1) (hE.ext hB.ti q₁.1)) (fun vs s₂ q₂ => ?_) fun _ _ x => x
  obtain ⟨l₂, q₂⟩ := q₂
  exact ⟨_, q₁.1.trans q₂.1, .cons (q₁.2.ext (hB.ext q₁.1).ti q₂.1 fun _ x => x) (q₂.2.wid fun a x => x.imp id (fresh_of_ext q₁.1.toExt0 a))⟩
theorem EvLN.nil : EvLN W d env σ [] [] := fun pos g l V A s E hR hB hE => wpAny_items_nil ⟨l, Ext.refl hB.ti hB.tok, .nil⟩
theorem EvLN.cons {e : Expr} {rest : List Expr} {x : PV} {xs : List PV} (h : EvN W d env σ e x) (hs : EvLN W d env σ rest xs) (he : starEach (e :: rest) env = (false, eval e env) :: starEach rest env) : EvLN W d env σ (e :: rest) (x :: xs) := by
  intro pos g l V A s E hR hB hE
  refine wpAny_items_cons (wpAny_mono (h g l V A s E hR hB hE) (fun va s₁ q₁ => ?_) fun _ _ x => x) he
  obtain ⟨l₁, q₁⟩ := q₁
  refine wpAny_mono (hs pos g l₁ V A s₁ E hR (hB.ext q₁.1) (hE.ext hB.ti q₁.1)) (fun vs s₂ q₂ => ?_) fun _ _ x => x
  obtain ⟨l₂, q₂⟩ := q₂
  exact ⟨_, q₁.1.trans q₂.1, .cons (q₁.2.ext (hB.ext q₁.1).ti q₂.1 fun _ x => x) (q₂.2.wid fun a x => fresh_of_ext q₁.1.toExt0 a x)⟩

theorem fresh_size {s : Shared} : s.heap.get? s.heap.objs.size = none := Heap.get?_none_of_le (Nat.le_refl _)

theorem EvTN.tuple {es : List Expr} {k : Nat} {pos : Pos} {xs : List PV} (h : EvLN W d env σ es xs) (hl : xs.length ≤ sizeLine) : EvN W d env σ (.Tuple es k pos) (.tup xs) := by
  intro g l V A s E hR hB hE
  refine wpAny_Tuple (wpAny_mono (h pos g l V A s E hR hB hE) (fun vs s₁ q₁ => ?_) fun _ _ x => x)
  obtain ⟨l₁, q₁⟩ := q₁
  refine ⟨by rw [q₁.2.length]; exact hl, ?_⟩
  have hB₁ := hB.ext q₁.1
  exact ⟨_, q₁.1.trans (Ext.push hB₁.ti hB₁.tok), .tup (fresh_of_ext q₁.1.toExt0 _ fresh_size) (IsTup.new _ _) (q₁.2.le fun _ _ e => Heap.get?_push_of_some _ e)⟩
theorem EvTN.list {es : List Expr} {pos : Pos} {xs : List PV} (h : EvLN W d env σ es xs) (hl : xs.length ≤ sizeLine) : EvN W d env σ (.List es pos) (.list xs) := by
  intro g l V A s E hR hB hE
  refine wpAny_List (wpAny_mono (h pos g l V A s E hR hB hE) (fun vs s₁ q₁ => ?_) fun _ _ x => x)
  obtain ⟨l₁, q₁⟩ := q₁
  refine ⟨by rw [q₁.2.length]; exact hl, ?_⟩
  have hB₁ := hB.ext q₁.1
  exact ⟨_, q₁.1.trans (Ext.push hB₁.ti hB₁.tok), .list (fresh_of_ext q₁.1.toExt0 _ fresh_size) ⟨_, Heap.get?_push_size _ rfl⟩ (q₁.2.le fun _ _ e => Heap.get?_push_of_some _ e)⟩
end
end Mine

namespace Mine
local macro_rules | `(tactic| omega) => `(tactic| lia)

section
variable {W : Wd} {d : Nat} {env : Env} {σ : Loc}

theorem op2_int {f : Value → Value → Sem Value} {a b c : Int}
    (hf : ∀ (A : Around) (E : Value → Shared → Prop) (s : Shared) (t u : Tok) (Q : Value → Shared → Prop), Q (.int c s.toks) { s with toks := s.toks + 1 } → wpAny W.M A (f (.int a t) (.int b u)) Q E s) : Op2 W d f (.int a) (.int b) (.int c) := by
  exact fun g l V A s E va vb hR hB ha hb => let ⟨t, e⟩ := ha.shape; let ⟨u, e'⟩ := hb.shape; e ▸ e' ▸ hf A E s t u _ ⟨_, Ext.next hB.ti hB.tok, .int _ _⟩
theorem op2_ib {f : Value → Value → Sem Value} {a b : Int} {c : Bool}
    (hf : ∀ (A : Around) (E : Value → Shared → Prop) (s : Shared) (t u : Tok) (Q : Value → Shared → Prop), Q (.bool c) s → wpAny W.M A (f (.int a t) (.int b u)) Q E s) : Op2 W d f (.int a) (.int b) (.bool c) := by
  exact fun g l V A s E va vb hR hB ha hb => let ⟨t, e⟩ := ha.shape; let ⟨u, e'⟩ := hb.shape; e ▸ e' ▸ hf A E s t u _ ⟨_, Ext.refl hB.ti hB.tok, .bool _⟩
theorem op2_sb {f : Value → Value → Sem Value} {a b : PySem.Str} {c : Bool}
    (hf : ∀ (A : Around) (E : Value → Shared → Prop) (s : Shared) (t u : Tok) (Q : Value → Shared → Prop), Q (.bool c) s → wpAny W.M A (f (.str a t) (.str b u)) Q E s) : Op2 W d f (.str a) (.str b) (.bool c) := by
  exact fun g l V A s E va vb hR hB ha hb => let ⟨t, e, _⟩ := ha.shape; let ⟨u, e', _⟩ := hb.shape; e ▸ e' ▸ hf A E s t u _ ⟨_, Ext.refl hB.ti hB.tok, .bool _⟩

theorem Op2.add {a b : Int} : Op2 W d (binaryOp .Add) (.int a) (.int b) (.int (a + b)) := op2_int fun _ _ _ _ _ _ h => P.add_int h
theorem Op2.sub {a b : Int} : Op2 W d (binaryOp .Sub) (.int a) (.int b) (.int (a - b)) := op2_int fun _ _ _ _ _ _ h => P.sub_int h
theorem Op2.mul {a b : Int} (hm : IntMulOk a b) : Op2 W d (binaryOp .Mult) (.int a) (.int b) (.int (a * b)) := op2_int fun _ _ _ _ _ _ h => P.mul_int h hm
theorem Op2.fdiv {a b : Int} (hb : b ≠ 0) (hp : Builtin.divisionGoesByPylong a b = false) : Op2 W d (binaryOp .FloorDiv) (.int a) (.int b) (.int (a.fdiv b)) := op2_int fun _ _ _ _ _ _ h => floordiv_int hb h (.inl hp)
theorem Op2.fmod {a b : Int} (hb : b ≠ 0) : Op2 W d (binaryOp .Mod) (.int a) (.int b) (.int (a.fmod b)) := op2_int fun _ _ _ _ _ _ h => mod_int' hb h
theorem Op2.pow {a n : Int} (hn : 0 ≤ n) (hz : (Builtin.Int.intBits a : Int) * n ≤ 2 ^ 27) : Op2 W d (binaryOp .Pow) (.int a) (.int n) (.int (a ^ n.toNat)) := op2_int fun _ _ _ _ _ _ h => pow_int hn hz h
theorem Op2.shl {a n : Int} (hn : 0 ≤ n) (hz : (Builtin.Int.intBits a : Int) + n ≤ 2 ^ 27) : Op2 W d (binaryOp .LShift) (.int a) (.int n) (.int (a * 2 ^ n.toNat)) := op2_int fun _ _ _ _ _ _ h => lshift_int hn hz h
theorem Op2.shr {a n : Int} (hn : 0 ≤ n) : Op2 W d (binaryOp .RShift) (.int a) (.int n) (.int (a.fdiv (2 ^ n.toNat))) := op2_int fun _ _ _ _ _ _ h => rshift_int hn h
theorem Op2.band {a b : Int} : Op2 W d (binaryOp .BitAnd) (.int a) (.int b) (.int (Builtin.bitAnd a b)) := op2_int fun _ _ _ _ _ _ h => and_int h
theorem Op2.bor {a b : Int} : Op2 W d (binaryOp .BitOr) (.int a) (.int b) (.int (Builtin.bitOr a b)) := op2_int fun _ _ _ _ _ _ h => or_int h
theorem Op2.bxor {a b : Int} : Op2 W d (binaryOp .BitXor) (.int a) (.int b) (.int (Builtin.bitXor a b)) := op2_int fun _ _ _ _ _ _ h => xor_int h
theorem Op2.iadd {a b : Int} : Op2 W d (inplaceOp .Add) (.int a) (.int b) (.int (a + b)) := op2_int fun _ _ _ _ _ _ h => P.iadd_int h
theorem Op2.isub {a b : Int} : Op2 W d (inplaceOp .Sub) (.int a) (.int b) (.int (a - b)) := op2_int fun _ _ _ _ _ _ h => P.isub_int h
theorem Op2.ishl {a n : Int} (hn : 0 ≤ n) (hz : (Builtin.Int.intBits a : Int) + n ≤ 2 ^ 27) : Op2 W d (inplaceOp .LShift) (.int a) (.int n) (.int (a * 2 ^ n.toNat)) := op2_int fun _ _ _ _ _ _ h => ilshift_int hn hz h
theorem Op2.ishr {a n : Int} (hn : 0 ≤ n) : Op2 W d (inplaceOp .RShift) (.int a) (.int n) (.int (a.fdiv (2 ^ n.toNat))) := op2_int fun _ _ _ _ _ _ h => irshift_int hn h
theorem Op2.ipow {a n : Int} (hn : 0 ≤ n) (hz : (Builtin.Int.intBits a : Int) * n ≤ 2 ^ 27) : Op2 W d (inplaceOp .Pow) (.int a) (.int n) (.int (a ^ n.toNat)) := op2_int fun _ _ _ _ _ _ h => ipow_int hn hz h

theorem Op2.eqi {a b : Int} : Op2 W d (compareOp .Eq) (.int a) (.int b) (.bool (a == b)) := op2_ib fun _ _ _ _ _ _ h => P.eq_int h
theorem Op2.nei {a b : Int} : Op2 W d (compareOp .NotEq) (.int a) (.int b) (.bool (a != b)) := op2_ib fun _ _ _ _ _ _ h => P.ne_int h
theorem Op2.lti {a b : Int} : Op2 W d (compareOp .Lt) (.int a) (.int b) (.bool (decide (a < b))) := op2_ib fun _ _ _ _ _ _ h => P.lt_int h
theorem Op2.lei {a b : Int} : Op2 W d (compareOp .LtE) (.int a) (.int b) (.bool (decide (a ≤ b))) := op2_ib fun _ _ _ _ _ _ h => P.le_int h
theorem Op2.gti {a b : Int} : Op2 W d (compareOp .Gt) (.int a) (.int b) (.bool (decide (a > b))) := op2_ib fun _ _ _ _ _ _ h => P.gt_int h
theorem Op2.gei {a b : Int} : Op2 W d (compareOp .GtE) (.int a) (.int b) (.bool (decide (a ≥ b))) := op2_ib fun _ _ _ _ _ _ h => P.ge_int h
theorem Op2.eqs {a b : PySem.Str} : Op2 W d (compareOp .Eq) (.str a) (.str b) (.bool (a == b)) := op2_sb fun _ _ _ _ _ _ h => eq_str h
theorem Op2.nes {a b : PySem.Str} : Op2 W d (compareOp .NotEq) (.str a) (.str b) (.bool (a != b)) := op2_sb fun _ _ _ _ _ _ h => ne_str h

theorem op1_int {f : Value → Sem Value} {a c : Int}
    (hf : ∀ (A : Around) (E : Value → Shared → Prop) (s : Shared) (t : Tok) (Q : Value → Shared → Prop), Q (.int c s.toks) { s with toks := s.toks + 1 } → wpAny W.M A (f (.int a t)) Q E s) : Op1 W d f (.int a) (.int c) := by
  exact fun g l V A s E va hR hB ha => let ⟨t, e⟩ := ha.shape; e ▸ hf A E s t _ ⟨_, Ext.next hB.ti hB.tok, .int _ _⟩
theorem Op1.neg {a : Int} : Op1 W d (unaryOp .USub) (.int a) (.int (-a)) := op1_int fun _ _ _ _ _ h => P.neg_int h
theorem Op1.inv {a : Int} : Op1 W d (unaryOp .Invert) (.int a) (.int (Builtin.bitNot a)) := op1_int fun _ _ _ _ _ h => invert_int h

theorem Truth.int {a : Int} : Truth W d (.int a) (a != 0) := fun g l V A s E va hR hB hv =>
  let ⟨_, e⟩ := hv.shape; e ▸ P.truthy_int ⟨_, Ext.refl hB.ti hB.tok, rfl⟩
theorem Ext.next2 {W : Wd} {l : Lab} {s : Shared} (ti : W.TI s.heap) (tk : TokOk l s) : Ext W l s l { s with toks := s.toks + 1 + 1 } := (Ext0.tok ti).up tk (Nat.le_succ_of_le (Nat.le_succ _))
theorem Truth.str {a : PySem.Str} (hl : (a.length : Int) < 2 ^ 63) : Truth W d (.str a) ((a.length : Int) != 0) := fun g l V A s E va hR hB hv =>
  let ⟨_, e, _⟩ := hv.shape; e ▸ P.truthy_str (Int.not_le.mpr hl) ⟨_, Ext.next2 hB.ti hB.tok, rfl⟩
theorem size_len {vs : List Value} {n : Nat} (h : vs.length = n) : vs.toArray.size = n := h
theorem Truth.list {xs : List PV} (hl : (xs.length : Int) < 2 ^ 63) : Truth W d (.list xs) (!xs.isEmpty) := fun g l V A s E va hR hB hv => by
  obtain ⟨a, us, rfl, _, hp, hs⟩ := hv.shape
  refine wpAny_truthy_list hp.isList ((size_len hs.length).symm ▸ hl) ⟨_, Ext.next2 hB.ti hB.tok, ?_⟩
  have e := hs.length
  cases xs with
  | nil => rw [List.length_eq_zero_iff.mp e]; rfl
  | cons x xs => cases us with
    | nil => cases e
    | cons => rfl

/-! calls of built-in functions: a value, the arguments' values -/
noncomputable def CallSp (W : Wd) (d : Nat) (fv : Value) (as : List PV) (r : PV) : Prop :=
  ∀ (g : Heap) (l : Lab) (V : Addr → Prop) (A : Around) (s : Shared) (E : Value → Shared → Prop) (vs : List Value), Rm d A → Base W g l s → VReps V l s.heap vs as →
    wpAny W.M A (call fv vs) (fun v s' => ∃ l', Ext W l s l' s' ∧ VRep (Fresh s) l' s'.heap v r) E s

theorem CallSp.lenl {xs : List PV} (hl : (xs.length : Int) < 2 ^ 63) : CallSp W d (.builtin "len") [.list xs] (.int xs.length) := by
  intro g l V A s E vs hR hB hv
  obtain ⟨v, rfl, h1⟩ := hv.one
  obtain ⟨a, us, rfl, _, hp, hs⟩ := h1.shape
  have e := size_len hs.length
  exact Calls.call_len_list hp.isList (e.symm ▸ hl) ⟨_, Ext.next2 hB.ti hB.tok, e ▸ .int _ _⟩
theorem CallSp.lens {x : PySem.Str} (hl : (x.length : Int) < 2 ^ 63) : CallSp W d (.builtin "len") [.str x] (.int x.length) := by
  intro g l V A s E vs hR hB hv
  obtain ⟨v, rfl, h1⟩ := hv.one
  obtain ⟨t, rfl, _⟩ := h1.shape
  exact P.len_str (Int.not_le.mpr hl) ⟨_, Ext.next2 hB.ti hB.tok, .int _ _⟩
/-- a tree that makes no text -/
theorem wp_same {A : Around} {t : Sem Value} {l : Lab} {s : Shared} {E : Value → Shared → Prop} {r : PV} (tk : TokOk l s) (h : wpAny W.M A t (fun v s' => Ext0 W s s' ∧ VRep (Fresh s) l s'.heap v r) E s) : wpAny W.M A t (fun v s' => ∃ l', Ext W l s l' s' ∧ VRep (Fresh s) l' s'.heap v r) E s :=
  wpAny_mono (wp_ext tk h) (fun _ _ ⟨_, e, e2, q⟩ => ⟨_, e, e2 ▸ q⟩) fun _ _ x => x
theorem CallSp.abs {a : Int} : CallSp W d (.builtin "abs") [.int a] (.int (if a < 0 then -a else a)) := by
  intro g l V A s E vs hR hB hv
  obtain ⟨v, rfl, h1⟩ := hv.one
  obtain ⟨t, rfl⟩ := h1.shape
  exact wp_same hB.tok (call_abs_int fun u tk => ⟨Ext0.tok hB.ti, .int _ _⟩)
theorem CallSp.min {a b : Int} : CallSp W d (.builtin "min") [.int a, .int b] (.int (if b < a then b else a)) := by
  intro g l V A s E vs hR hB hv
  obtain ⟨v, u, rfl, h1, h2⟩ := hv.two
  obtain ⟨t, rfl⟩ := h1.shape
  obtain ⟨t', rfl⟩ := h2.shape
  refine wp_same hB.tok (min_two_ints hR.hd fun h' tk hk => ⟨Ext0.of_le hB.ti hk, ?_⟩)
  by_cases c : b < a
  · rw [if_pos c, if_pos c]; exact .int _ _
  · rw [if_neg c, if_neg c]; exact .int _ _
theorem CallSp.chr {a : Int} (h0 : 0 ≤ a) (h1 : a ≤ 0x10FFFF) : CallSp W d (.builtin "chr") [.int a] (.str ⟨#[a.toNat]⟩) := by
  intro g l V A s E vs hR hB hv
  obtain ⟨v, rfl, h1'⟩ := hv.one
  obtain ⟨t, rfl⟩ := h1'.shape
  exact P.chr_of_int (by simp; omega) ⟨_, Ext.text hB.ti hB.tok, .str _ _ (Lab.add_self ..)⟩
theorem CallSp.divmod {a b : Int} (hb : b ≠ 0) (hp : Builtin.divisionGoesByPylong a b = false) : CallSp W d (.builtin "divmod") [.int a, .int b] (.tup [.int (a.fdiv b), .int (a.fmod b)]) := by
  intro g l V A s E vs hR hB hv
  obtain ⟨v, u, rfl, h1, h2⟩ := hv.two
  obtain ⟨t, rfl⟩ := h1.shape
  obtain ⟨t', rfl⟩ := h2.shape
  exact divmod_int hb ⟨l, (Ext0.push hB.ti).up hB.tok (Nat.le_succ_of_le (Nat.le_succ _)), .tup fresh_size ⟨_, Heap.get?_push_size _ rfl, rfl, 0, rfl⟩ (.cons (.int _ _) (.cons (.int _ _) .nil))⟩ (.inl hp)
end
end Mine

namespace Mine
local macro_rules | `(tactic| omega) => `(tactic| lia)

/-! ints, texts, data -/
theorem VReps.ints {V : Addr → Prop} {l : Lab} {h : Heap} : ∀ {ns : List Int} {vs : List Value}, VReps V l h vs (ns.map .int) → IntsAre vs ns
  | [], _, r => (show _ = [] from r.shape) ▸ .nil
  | _ :: _, _, r => let ⟨_, _, e, hv, hs⟩ := r.shape; let ⟨_, e2⟩ := hv.shape; e ▸ e2 ▸ .cons _ _ (VReps.ints hs)
theorem VReps.strs {V : Addr → Prop} {l : Lab} {h : Heap} : ∀ {ns : List PySem.Str} {vs : List Value}, VReps V l h vs (ns.map .str) → StrsAre vs ns
  | [], _, r => (show _ = [] from r.shape) ▸ .nil
  | _ :: _, _, r => let ⟨_, _, e, hv, hs⟩ := r.shape; let ⟨_, e2, _⟩ := hv.shape; e ▸ e2 ▸ .cons _ _ (VReps.strs hs)
theorem IntsAre.vreps {V : Addr → Prop} {l : Lab} {h : Heap} {vs : List Value} {ns : List Int} (r : IntsAre vs ns) : VReps V l h vs (ns.map .int) :=
  IntsAre.rec (motive := fun vs ns _ => VReps V l h vs (ns.map .int)) .nil (fun n t _ _ _ ih => .cons (.int n t) ih) r
theorem imm_ints (ns : List Int) : ∀ x ∈ ns.map PV.int, x.imm = true := fun x hx => by
  obtain ⟨n, _, rfl⟩ := List.mem_map.mp hx; rfl
theorem imm_strs (ns : List PySem.Str) : ∀ x ∈ ns.map PV.str, x.imm = true := fun x hx => by
  obtain ⟨n, _, rfl⟩ := List.mem_map.mp hx; rfl

mutual
noncomputable def PV.toD : PV → PyData
  | .none => .none
  | .bool b => .bool b
  | .int i => .int i
  | .str x => .str x
  | .list xs => .list (PV.toDs xs)
  | .tup xs => .tuple (PV.toDs xs)
noncomputable def PV.toDs : List PV → List PyData
  | [] => []
  | x :: xs => PV.toD x :: PV.toDs xs
end

theorem VRep.reads {V : Addr → Prop} {l : Lab} {h : Heap} {v : Value} {x : PV} (r : VRep V l h v x) : ∃ as, Reads h v x.toD as :=
  VRep.rec (motive_1 := fun v x _ => ∃ as, Reads h v x.toD as) (motive_2 := fun vs xs _ => ∃ as, ReadsAll h vs (PV.toDs xs) as)
    ⟨_, .none⟩ (fun b => ⟨_, .bool b⟩) (fun i t => ⟨_, .int i t⟩) (fun x t _ => ⟨_, .str x t⟩) (fun _ ⟨_, ho⟩ _ ⟨_, q⟩ => ⟨_, .list ho rfl rfl q⟩) (fun _ ⟨_, ho, hc, _, hd⟩ _ ⟨_, q⟩ => ⟨_, .tuple ho hc hd q⟩)
    ⟨_, .nil⟩ (fun _ _ ⟨_, q⟩ ⟨_, q2⟩ => ⟨_, .cons q q2⟩) r

theorem toDs_ints : ∀ ns : List Int, PV.toDs (ns.map .int) = ns.map .int
  | [] => by simp [PV.toDs]
  | n :: ns => by simp [PV.toDs, PV.toD, toDs_ints ns]
theorem toDs_strs : ∀ ns : List PySem.Str, PV.toDs (ns.map .str) = ns.map .str
  | [] => by simp [PV.toDs]
  | n :: ns => by simp [PV.toDs, PV.toD, toDs_strs ns]
theorem eqv_ints : ∀ ns ms : List Int, PyData.eqvAll (ns.map .int) (ms.map .int) = (ns == ms)
  | [], [] => rfl
  | [], _ :: _ => rfl
  | _ :: _, [] => rfl
  | n :: ns, m :: ms => by
    have := eqv_ints ns ms
    simp only [List.map_cons, PyData.eqvAll, PyData.eqv, this, List.cons_beq_cons]
theorem eqv_strs : ∀ ns ms : List PySem.Str, PyData.eqvAll (ns.map .str) (ms.map .str) = (ns == ms)
  | [], [] => rfl
  | [], _ :: _ => rfl
  | _ :: _, [] => rfl
  | n :: ns, m :: ms => by
    have := eqv_strs ns ms
    simp only [List.map_cons, PyData.eqvAll, PyData.eqv, this, List.cons_beq_cons]
theorem canLay_ints : ∀ ns : List Int, PyData.canLayAll0 (ns.map .int) = true
  | [] => rfl
  | n :: ns => by simp [PyData.canLayAll0, PyData.canLay0, canLay_ints ns]

section
variable {W : Wd} {d : Nat} {env : Env} {σ : Loc}

theorem depth_ints : ∀ ns : List Int, PyData.depth (.list (ns.map .int)) ≤ 2 := by
  intro ns
  induction ns with
  | nil => simp [PyData.depth, PyData.depthAll]
  | cons n ns ih => simp [PyData.depth, PyData.depthAll] at ih ⊢; omega

/-- == of any two data -/
theorem Op2.eqD {a b : PV} (ha : a.toD.canLay0 = true) (hb : b.toD.canLay0 = true) (hd : a.toD.depth ≤ 900) : Op2 W d (compareOp .Eq) a b (.bool (PyData.eqv a.toD b.toD)) := by
  intro g l V A s E va vb hR hB h1 h2
  obtain ⟨as, r1⟩ := h1.reads
  obtain ⟨bs, r2⟩ := h2.reads
  exact SeqAt.compareEq_reads r1 r2 ha hb (by have := hR.units; have := Nat.min_le_left a.toD.depth b.toD.depth; omega) ⟨_, Ext.refl hB.ti hB.tok, .bool _⟩
theorem Op2.neD {a b : PV} (ha : a.toD.canLay0 = true) (hb : b.toD.canLay0 = true) (hd : a.toD.depth ≤ 900) : Op2 W d (compareOp .NotEq) a b (.bool (!PyData.eqv a.toD b.toD)) := by
  intro g l V A s E va vb hR hB h1 h2
  obtain ⟨as, r1⟩ := h1.reads
  obtain ⟨bs, r2⟩ := h2.reads
  exact SeqAt.compareNe_reads r1 r2 ha hb (by have := hR.units; have := Nat.min_le_left a.toD.depth b.toD.depth; omega) ⟨_, Ext.refl hB.ti hB.tok, .bool _⟩
theorem Op2.eqInts {ns ms : List Int} : Op2 W d (compareOp .Eq) (.list (ns.map .int)) (.list (ms.map .int)) (.bool (ns == ms)) := by
  have h := Op2.eqD (W := W) (d := d) (a := .list (ns.map .int)) (b := .list (ms.map .int)) (by simp [PV.toD, toDs_ints, PyData.canLay0, canLay_ints]) (by simp [PV.toD, toDs_ints, PyData.canLay0, canLay_ints]) (by simp only [PV.toD, toDs_ints]; have := depth_ints ns; omega)
  simp only [PV.toD, toDs_ints, PyData.eqv, eqv_ints] at h
  exact h
theorem Op2.neInts {ns ms : List Int} : Op2 W d (compareOp .NotEq) (.list (ns.map .int)) (.list (ms.map .int)) (.bool (!(ns == ms))) := by
  have h := Op2.neD (W := W) (d := d) (a := .list (ns.map .int)) (b := .list (ms.map .int)) (by simp [PV.toD, toDs_ints, PyData.canLay0, canLay_ints]) (by simp [PV.toD, toDs_ints, PyData.canLay0, canLay_ints]) (by simp only [PV.toD, toDs_ints]; have := depth_ints ns; omega)
  simp only [PV.toD, toDs_ints, PyData.eqv, eqv_ints] at h
  exact h
theorem Op2.eqTup {a b c e : Int} : Op2 W d (compareOp .Eq) (.tup [.int a, .int b]) (.tup [.int c, .int e]) (.bool (a == c && b == e)) := by
  have h := Op2.eqD (W := W) (d := d) (a := .tup [.int a, .int b]) (b := .tup [.int c, .int e]) (by simp [PV.toD, PV.toDs, PyData.canLay0, PyData.canLayAll0]) (by simp [PV.toD, PV.toDs, PyData.canLay0, PyData.canLayAll0]) (by simp [PV.toD, PV.toDs, PyData.depth, PyData.depthAll])
  simpa [PV.toD, PV.toDs, PyData.eqv, PyData.eqvAll] using h

/-! in -/
theorem Op2.inInts {k : Int} {ns : List Int} : Op2 W d (compareOp .In) (.int k) (.list (ns.map .int)) (.bool (ns.any (· == k))) := fun g l V A s E va vb hR hB h1 h2 =>
  let ⟨_, e⟩ := h1.shape; let ⟨_, _, e2, _, hp, hs⟩ := h2.shape; e ▸ e2 ▸ in_list_ints hp.isList hs.ints ⟨_, Ext.refl hB.ti hB.tok, .bool _⟩
theorem Op2.notinInts {k : Int} {ns : List Int} : Op2 W d (compareOp .NotIn) (.int k) (.list (ns.map .int)) (.bool (!(ns.any (· == k)))) := fun g l V A s E va vb hR hB h1 h2 =>
  let ⟨_, e⟩ := h1.shape; let ⟨_, _, e2, _, hp, hs⟩ := h2.shape; e ▸ e2 ▸ notin_list_ints hp.isList hs.ints ⟨_, Ext.refl hB.ti hB.tok, .bool _⟩
theorem Op2.notinStrs {k : PySem.Str} {ns : List PySem.Str} : Op2 W d (compareOp .NotIn) (.str k) (.list (ns.map .str)) (.bool (!(ns.any (· == k)))) := fun g l V A s E va vb hR hB h1 h2 =>
  let ⟨_, e, _⟩ := h1.shape; let ⟨_, _, e2, _, hp, hs⟩ := h2.shape; e ▸ e2 ▸ notin_list_strs hp.isList hs.strs ⟨_, Ext.refl hB.ti hB.tok, .bool _⟩

/-! list + list, flat -/
theorem Op2.cat {xs ys : List PV} (hx : ∀ x ∈ xs, x.imm = true) (hy : ∀ x ∈ ys, x.imm = true) (hl : xs.length + ys.length ≤ sizeLine) : Op2 W d (binaryOp .Add) (.list xs) (.list ys) (.list (xs ++ ys)) := by
  intro g l V A s E va vb hR hB h1 h2
  obtain ⟨a, vs, rfl, ha, ⟨n, ho⟩, hs⟩ := h1.shape
  obtain ⟨b, ws, rfl, hb, ⟨n2, ho2⟩, ht⟩ := h2.shape
  have hl' : vs.toArray.size + ws.toArray.size ≤ sizeLine := by rw [size_len hs.length, size_len ht.length]; exact hl
  refine concat_meets ⟨_, ho, rfl⟩ ⟨_, ho2, rfl⟩ noFill_list_add seq_list_add PySem.F.slot_list_add PySem.F.entry_list_add (PySem.F.args_list_add_2 _ _) (list_addW a b vs.toArray ws.toArray n n2 none none #[] #[] hl') ⟨ho, ho2, ?_⟩
  rw [List.append_toArray]
  refine ⟨_, Ext.push hB.ti hB.tok, .list fresh_size ⟨0, Heap.get?_push_size _ rfl⟩ ((hs.append ht).of_imm fun x hx' => (List.mem_append.mp hx').elim (hx x) (hy x))⟩

/-! items -/
theorem subTail {x : PySem.Str} {p : Pos} {sl : Expr} {o i : Value} {T id : String} {A : Around} {s : Shared} {E : Value → Shared → Prop} {Q : Value → Shared → Prop} (hT : s.TypeIs o T)
    (hl : typeLookup (.type T) "__getitem__" = pure (some (.builtin id))) (hs : ∀ o i, subscripted sl false o i = operate [o, i] (getItem o i)) (h : wpAny W.M A (getItem o i) Q E s) : wpAny W.M A (subscriptTail (.Name x p) sl o i) Q E s :=
  subscriptTail_builtin hT hl h (hs _ _) (fun _ => rfl)

/-- an item's two parts, one after another -/
theorem ev_two {V : Addr → Prop} {g : Heap} {l : Lab} {A : Around} {s : Shared} {E : Value → Shared → Prop} {o sl : Expr} {po : PV} {k : Int} {Q : Value → Shared → Prop} {f : Value → Value → Sem Value} (hR : Rm d A) (hB : Base W g l s) (hE : EnvOk env σ V l s.heap) (hv : Ev W d env σ o po) (hi : Ev W d env σ sl (.int k))
    (h : ∀ vo t l' s', Ext W l s l' s' → VRep (fun a => V a ∨ Fresh s a) l' s'.heap vo po → wpAny W.M A (f vo (.int k t)) Q E s') : wpAny W.M A (eval o env) (fun vo s₁ => wpAny W.M A (eval sl env) (fun vi s₂ => wpAny W.M A (f vo vi) Q E s₂) E s₁) E s := by
  refine wpAny_mono (hv g l V A s E hR hB hE) (fun vo s₁ q₁ => ?_) fun _ _ x => x
  obtain ⟨l₁, e1, r1⟩ := q₁
  have hB₁ := hB.ext e1
  refine wpAny_mono (hi g l₁ V A s₁ E hR hB₁ (hE.ext hB.ti e1)) (fun vi s₂ q₂ => ?_) fun _ _ x => x
  obtain ⟨l₂, e2, r2⟩ := q₂
  obtain ⟨t, rfl⟩ := r2.shape
  exact h vo t l₂ s₂ (e1.trans e2) (r1.ext hB₁.ti e2 fun _ x => x)
/-- a list's item, counted from its start -/
theorem EvT.item {x : PySem.Str} {p pos : Pos} {sl : Expr} {xs : List PV} {k : Int} {r : PV} (hv : Ev W d env σ (.Name x p) (.list xs)) (hi : Ev W d env σ sl (.int k)) (h0 : 0 ≤ k) (h1 : k < 2 ^ 63) (hr : xs[k.toNat]? = some r)
    (hs : ∀ o i, subscripted sl false o i = operate [o, i] (getItem o i)) : Ev W d env σ (.Subscript (.Name x p) sl pos) r := by
  intro g l V A s E hR hB hE
  refine Subscript_ (ev_two hR hB hE hv hi fun vo t l' s' e r1 => ?_)
  obtain ⟨a, us, rfl, ha, hp, hvs⟩ := r1.shape
  obtain ⟨v, hv1, hv2⟩ := hvs.get _ hr
  exact subTail hp.isList.typeIs slot_list_getitem.lookup hs (wpAny_getItem_list hp.isList h0 h1 (by rw [List.getElem?_toArray]; exact hv1) ⟨_, e, hv2⟩)
theorem EvT.itemTup {x : PySem.Str} {p pos : Pos} {sl : Expr} {xs : List PV} {k : Int} {r : PV} (hv : Ev W d env σ (.Name x p) (.tup xs)) (hi : Ev W d env σ sl (.int k)) (h0 : 0 ≤ k) (h1 : k < 2 ^ 63) (hr : xs[k.toNat]? = some r)
    (hs : ∀ o i, subscripted sl false o i = operate [o, i] (getItem o i)) : Ev W d env σ (.Subscript (.Name x p) sl pos) r := by
  intro g l V A s E hR hB hE
  refine Subscript_ (ev_two hR hB hE hv hi fun vo t l' s' e r1 => ?_)
  obtain ⟨a, us, rfl, ha, hp, hvs⟩ := r1.shape
  obtain ⟨v, hv1, hv2⟩ := hvs.get _ hr
  have hlt : k.toNat < xs.length := (List.getElem?_eq_some_iff.mp hr).1
  have hj : seqIndex? k us.toArray.size = some k.toNat := by
    rw [size_len hvs.length]
    unfold seqIndex?
    simp only [Int.not_lt.mpr h0, if_false]
    rw [if_pos (by simp only [Bool.and_eq_true, decide_eq_true_eq]; omega)]
  exact subTail hp.typeIs slot_tuple_getitem.lookup hs (getItem_tuple hp (Int.le_trans (by decide) h0) h1 hj (by rw [List.getElem?_toArray]; exact hv1) ⟨_, e, hv2⟩)
end
end Mine

namespace Mine
local macro_rules | `(tactic| omega) => `(tactic| lia)

section
variable {W : Wd} {d : Nat} {env : Env} {σ : Loc}

/-- a step after others -/
theorem wp_after {l l₁ : Lab} {s s₁ : Shared} {A : Around} {t : Sem Value} {r : PV} {E : Value → Shared → Prop} (e1 : Ext W l s l₁ s₁) (h : wpAny W.M A t (fun v s₂ => ∃ l', Ext W l₁ s₁ l' s₂ ∧ VRep (Fresh s₁) l' s₂.heap v r) E s₁) :
    wpAny W.M A t (fun v s₂ => ∃ l', Ext W l s l' s₂ ∧ VRep (Fresh s) l' s₂.heap v r) E s₁ :=
  wpAny_mono h (fun _ _ ⟨_, e2, r2⟩ => ⟨_, e1.trans e2, r2.wid fun a x => fresh_of_ext e1.toExt0 a x⟩) fun _ _ x => x
theorem EvTN.itemS {x : PySem.Str} {p pos : Pos} {sl : Expr} {y : PySem.Str} {k : Int} {c : Nat} (hv : Ev W d env σ (.Name x p) (.str y)) (hi : Ev W d env σ sl (.int k)) (h0 : -(2 ^ 63) ≤ k) (h1 : k < 2 ^ 63) (hc : (seqIndex? k y.length).bind (y.cps[·]?) = some c)
    (hs : ∀ o i, subscripted sl false o i = operate [o, i] (getItem o i)) : EvN W d env σ (.Subscript (.Name x p) sl pos) (.str ⟨#[c]⟩) := by
  intro g l V A s E hR hB hE
  refine Subscript_ (ev_two hR hB hE hv hi fun vo t l' s' e r1 => ?_)
  obtain ⟨u, rfl, _⟩ := r1.shape
  exact subTail (typeIs_str _ _ _) F.slot_str_getitem.lookup hs (P.getItem_str (by simp; omega) hc ⟨_, e.trans (Ext.text e.ti e.tk), .str _ _ (Lab.add_self ..)⟩)

/-! slices -/
noncomputable def EvP (W : Wd) (d : Nat) (env : Env) (σ : Loc) (oe : Option Expr) (p : Option Int) : Prop :=
  ∀ (g : Heap) (l : Lab) (V : Addr → Prop) (A : Around) (s : Shared) (E : Value → Shared → Prop), Rm d A → Base W g l s → EnvOk env σ V l s.heap →
    wpAny W.M A (evalPart oe env) (fun v s' => ∃ l', Ext W l s l' s' ∧ IsPart v p) E s
theorem EvP.none : EvP W d env σ none none := fun g l V A s E hR hB hE => wpAny_pure ⟨_, Ext.refl hB.ti hB.tok, .none⟩
theorem EvP.int {e : Expr} {i : Int} (h : Ev W d env σ e (.int i)) : EvP W d env σ (some e) (some i) := fun g l V A s E hR hB hE => by
  rw [evalPart_some]
  exact wpAny_mono (h g l V A s E hR hB hE) (fun v s₁ ⟨_, e1, r1⟩ => let ⟨_, e⟩ := r1.shape; ⟨_, e1, e ▸ .int _ _⟩) fun _ _ x => x
theorem EvP.non {e : Expr} (h : Ev W d env σ e .none) : EvP W d env σ (some e) Option.none := fun g l V A s E hR hB hE => by
  rw [evalPart_some]
  exact wpAny_mono (h g l V A s E hR hB hE) (fun v s₁ ⟨_, e1, r1⟩ => ⟨_, e1, (show v = .none from r1.shape) ▸ .none⟩) fun _ _ x => x

theorem part_of {v : Value} {p : Option Int} (h : IsPart v p) : ∃ q : Option (Int × Tok), v = partValue q ∧ q.map (·.1) = p := by
  cases h with
  | none => exact ⟨none, rfl, rfl⟩
  | int i t => exact ⟨some (i, t), rfl, rfl⟩

/-- the parts of a slice, one after another -/
theorem ev_slice {V : Addr → Prop} {g : Heap} {l : Lab} {A : Around} {s : Shared} {E : Value → Shared → Prop} {lo hi st : Option Expr} {a b c : Option Int} {q : Pos} {Q : Value → Shared → Prop} (hR : Rm d A) (hB : Base W g l s) (hE : EnvOk env σ V l s.heap)
    (hlo : EvP W d env σ lo a) (hhi : EvP W d env σ hi b) (hst : EvP W d env σ st c)
    (h : ∀ vl vu vc l' s', Ext W l s l' s' → IsPart vl a → IsPart vu b → IsPart vc c → Q (.ref s'.heap.objs.size) { s' with heap := s'.heap.push { cls := .type "slice", data := .fields #[vl, vu, vc] } }) : wpAny W.M A (eval (.Slice lo hi st q) env) Q E s := by
  refine wpAny_Slice (wpAny_mono (hlo g l V A s E hR hB hE) (fun vl s₂ q₂ => ?_) fun _ _ x => x)
  obtain ⟨l₂, e2, r2⟩ := q₂
  have hE₂ := hE.ext hB.ti e2
  refine wpAny_mono (hhi g l₂ V A s₂ E hR (hB.ext e2) hE₂) (fun vu s₃ q₃ => ?_) fun _ _ x => x
  obtain ⟨l₃, e3, r3⟩ := q₃
  exact wpAny_mono (hst g l₃ V A s₃ E hR ((hB.ext e2).ext e3) (hE₂.ext e2.ti e3)) (fun vc s₄ ⟨_, e4, r4⟩ => h vl vu vc _ s₄ ((e2.trans e3).trans e4) r2 r3 r4) fun _ _ x => x
theorem EvTN.sliceS {x : PySem.Str} {p q pos : Pos} {lo hi : Option Expr} {y : PySem.Str} {a b : Option Int} (hv : Ev W d env σ (.Name x p) (.str y)) (hlo : EvP W d env σ lo a) (hhi : EvP W d env σ hi b) (hz : y.length ≤ sizeLine) :
    EvN W d env σ (.Subscript (.Name x p) (.Slice lo hi none q) pos) (.str (Txt.slice y a b)) := by
  intro g l V A s E hR hB hE
  refine Subscript_ (wpAny_mono (hv g l V A s E hR hB hE) (fun vo s₁ q₁ => ?_) fun _ _ x => x)
  obtain ⟨l₁, e1, r1⟩ := q₁
  refine ev_slice hR (hB.ext e1) (hE.ext hB.ti e1) hlo hhi EvP.none fun vl vu vc l' s' e r2 r3 r4 => ?_
  obtain ⟨pl, rfl, rfl⟩ := part_of r2
  obtain ⟨pu, rfl, rfl⟩ := part_of r3
  obtain ⟨pc, rfl, hpc⟩ := part_of r4
  obtain rfl : pc = .none := Option.map_eq_none_iff.mp hpc
  obtain ⟨t, rfl, hl⟩ := r1.shape
  have e13 := e1.trans e
  have ep := Ext.push (o := { cls := .type "slice", data := .fields #[partValue pl, partValue pu, .none] }) e.ti e.tk
  refine tail_of_ItemOn (ops := [.ref s'.heap.objs.size, .str y t]) ⟨"str", _, F.slot_str_getitem.lookup, typeIs_str _ _ _, wpAny_getItem_str_slice (l := pl) (u := pu) (st := none) ⟨_, Heap.get?_push_size _ rfl, rfl, rfl⟩ rfl ?_⟩ rfl (fun _ => rfl)
  have hle := Txt.slice_le y (pl.map (·.1)) (pu.map (·.1))
  unfold Txt.slice at hle ⊢
  show (if ((1 : Int) == 1 && (Builtin.Str.strSliceIndices (pl.map (·.1)) (pu.map (·.1)) 1 y.length).length == y.length) = true then _ else _ : Made).post _ _
  by_cases hc : ((1 : Int) == 1 && (Builtin.Str.strSliceIndices (pl.map (·.1)) (pu.map (·.1)) 1 y.length).length == y.length) = true
  · rw [if_pos hc, if_pos hc]
    exact ⟨_, e13.trans ep, .str _ _ (e.ll _ _ hl)⟩
  · rw [if_neg hc] at hle
    rw [if_neg hc, if_neg hc]
    exact ⟨Nat.le_trans hle hz, _, (e13.trans ep).trans (Ext.text ep.ti ep.tk), .str _ _ (Lab.add_self ..)⟩

/-- the picked items -/
noncomputable def pickL {α : Type} (xs : List α) (lo hi st : Option Int) : List α :=
  (sliceRange (sliceBounds lo hi st xs.length).1 (sliceBounds lo hi st xs.length).2.1 (sliceBounds lo hi st xs.length).2.2).filterMap (xs[·]?)

theorem VReps.pickI {V : Addr → Prop} {l : Lab} {h : Heap} {vs : List Value} {xs : List PV} (r : VReps V l h vs xs) : ∀ ix : List Nat, VReps V l h (ix.filterMap (vs[·]?)) (ix.filterMap (xs[·]?))
  | [] => .nil
  | i :: ix => by
    have ih := r.pickI ix
    simp only [List.filterMap_cons]
    cases hx : xs[i]? with
    | none =>
      have : vs[i]? = none := by
        rw [List.getElem?_eq_none_iff] at hx ⊢; rw [r.length]; exact hx
      rw [this]; exact ih
    | some x =>
      obtain ⟨v, h1, h2⟩ := r.get i hx
      rw [h1]; exact .cons h2 ih

theorem slice_op {lo hi st : Option Expr} {q : Pos} {o i : Value} : ∃ ops, subscripted (.Slice lo hi st q) false o i = operate ops (getItem o i) := by
  cases st
  · exact ⟨_, rfl⟩
  · exact ⟨_, rfl⟩
theorem EvTN.sliceL {x : PySem.Str} {p q pos : Pos} {lo hi st : Option Expr} {xs : List PV} {a b c : Option Int} (hv : Ev W d env σ (.Name x p) (.list xs)) (hlo : EvP W d env σ lo a) (hhi : EvP W d env σ hi b) (hst : EvP W d env σ st c) (h0 : c ≠ some 0) (hz : xs.length ≤ sizeLine)
    (himm : ∀ x ∈ xs, x.imm = true) : EvN W d env σ (.Subscript (.Name x p) (.Slice lo hi st q) pos) (.list (pickL xs a b c)) := by
  intro g l V A s E hR hB hE
  refine Subscript_ (wpAny_mono (hv g l V A s E hR hB hE) (fun vo s₁ q₁ => ?_) fun _ _ x => x)
  obtain ⟨l₁, e1, r1⟩ := q₁
  have hB₁ := hB.ext e1
  refine ev_slice hR hB₁ (hE.ext hB.ti e1) hlo hhi hst fun vl vu vc l' s' e r2 r3 r4 => ?_
  obtain ⟨ad, vs, rfl, ha, hp, hvs⟩ := (r1.ext hB₁.ti e fun _ x => x).shape
  have e13 := e1.trans e
  have ep := Ext.push (o := { cls := .type "slice", data := .fields #[vl, vu, vc] }) e.ti e.tk
  have hp2 : (s'.heap.push { cls := .type "slice", data := .fields #[vl, vu, vc] }).IsList ad vs.toArray := hp.isList.push _
  have hsz : vs.toArray.size = xs.length := size_len hvs.length
  obtain ⟨ops, hop⟩ := slice_op (lo := lo) (hi := hi) (st := st) (q := q) (o := .ref ad) (i := .ref s'.heap.objs.size)
  refine tail_of_ItemOn (ops := ops) ⟨"list", _, slot_list_getitem.lookup, hp2.typeIs, wpAny_getItem_list_slice (hsz := hsz ▸ hz) hp2 (Heap.IsSliceOf.new _ _ _ _) r2 r3 r4 h0 ?_⟩ hop (fun _ => rfl)
  have hpk : VReps (fun a => V a ∨ Fresh s a) l' s'.heap (pickL vs a b c) (pickL xs a b c) := by
    unfold pickL
    rw [hvs.length]
    exact hvs.pickI _
  refine ⟨_, (e13.trans ep).trans (Ext.push ep.ti ep.tk), .list (vs := pickL vs a b c) (fresh_of_ext (e13.trans ep).toExt0 _ fresh_size) ⟨0, ?_⟩ (hpk.of_imm fun y hy => ?_)⟩
  · rw [Heap.get?_push_size _ rfl]
    simp [slicePick, pickL, hvs.length]
  · obtain ⟨i, _, h2⟩ := List.mem_filterMap.mp hy
    exact himm y (List.mem_of_getElem? h2)

/-! calls by name -/
noncomputable def Callee (W : Wd) (fv : Value) : Prop :=
  (∃ id, fv = .builtin id) ∨ (∃ n, fv = .type n) ∨ (∃ a, fv = .ref a ∧ ∀ g, Glob W g → ∃ o fd, g.get? a = some o ∧ o.data = .func fd)

theorem callWith_any {pos : Pos} {fv : Value} {args : List (Bool × Sem Value)} {A : Around} {E : Value → Shared → Prop} {s : Shared} {g : Heap} {l : Lab} {Q : Value → Shared → Prop} (hf : Callee W fv) (hplain : args.any (·.1) = false) (hB : Base W g l s)
    (h : wpAny W.M A (evalArgs fv true args []) (fun a s₁ => (∃ l₁, Ext W l s l₁ s₁) ∧ wpAny W.M A (call fv a.pos a.kw) Q E s₁) E s) : wpAny W.M A (callWith pos fv [] args []) Q E s := by
  rcases hf with ⟨id, rfl⟩ | ⟨n, rfl⟩ | ⟨a, rfl, hf⟩
  · exact Calls.callWith_builtin hplain (wpAny_mono h (fun _ _ q => q.2) fun _ _ x => x)
  · exact PyProof.Rows.callWith_type hplain (wpAny_mono h (fun _ _ q => q.2) fun _ _ x => x)
  · obtain ⟨o, fd, ho, hd⟩ := hf g hB.gl
    refine Calls.callWith_function (o := o) (fd := fd) (wpAny_mono h (fun x s₁ q => ⟨⟨?_, hd⟩, q.2⟩) fun _ _ x => x)
    obtain ⟨⟨l₁, e⟩, _⟩ := q
    exact (hB.ext e).le _ _ ho

theorem EvTN.call {f : PySem.Str} {p pos : Pos} {e : Expr} {rest : List Expr} {fv : Value} {as : List PV} {r : PV} (G : GNm W env f fv) (hf : Callee W fv) (ha : EvL W d env σ (e :: rest) as)
    (he : starEach (e :: rest) env = (false, eval e env) :: starEach rest env) (hpl : (backTo pos (starEach rest env)).any (·.1) = false) (hc : CallSp W d fv as r) : EvN W d env σ (.Call (.Name f p) (e :: rest) [] pos) r := by
  intro g l V A s E hR hB hE
  refine wpAny_Call_NameR (G.load hB hE ?_)
  refine callWith_any hf (by rw [he]; show (false || (backTo pos (starEach rest env)).any (·.1)) = false; rw [hpl]; rfl) hB ?_
  have hm := ha pos g l V A s E hR hB hE
  rw [he] at hm ⊢
  refine Calls.evalArgs_plain (x := eval e env) (rest := backTo pos (starEach rest env)) (wpAny_mono hm (fun vs s₁ q₁ => ?_) fun _ _ x => x)
  obtain ⟨l₁, e1, r1⟩ := q₁
  exact ⟨⟨_, e1⟩, wp_after e1 (hc g l₁ _ A s₁ E vs hR (hB.ext e1) r1)⟩

/-! methods of ints and texts -/
theorem EvTN.meth0 {o : Expr} {name : PySem.Str} {apos pos : Pos} {T id : String} {a r : PV} (hbase : attributeBase o name env (eval o env) = eval o env) (hline : (apos.endLine == pos.line) = true) (pa : PlainAttrs T) (slot : Slot T name id) (hty : typeOf (.builtin id) = pure (.type "method_descriptor"))
    (ho : Ev W d env σ o a) (hT : ∀ V l h v, VRep V l h v a → (∀ s : Shared, s.TypeIs v T) ∧ ∀ b, v ≠ .ref b) (hc : CallSp W d (.builtin id) [a] r) : EvN W d env σ (.Call (.Attribute o name apos) [] [] pos) r := by
  intro g l V A s E hR hB hE
  refine wpAny_Call_method hbase rfl hline pa slot hty (wpAny_mono (ho g l V A s E hR hB hE) (fun ov s₁ q₁ => ?_) fun _ _ x => x)
  obtain ⟨l₁, e1, r1⟩ := q₁
  have ht := hT _ _ _ _ r1
  refine ⟨ht.1 s₁, fun b e => absurd e (ht.2 b), Calls.callWith_builtin rfl (PySem.evalArgs_none ?_)⟩
  exact wp_after e1 (hc g l₁ _ A s₁ E [ov] hR (hB.ext e1) (.cons r1 .nil))
theorem EvTN.meth1 {o e : Expr} {name : PySem.Str} {apos pos : Pos} {T id : String} {a b r : PV} (hbase : attributeBase o name env (eval o env) = eval o env) (hline : (apos.endLine == pos.line) = true) (pa : PlainAttrs T) (slot : Slot T name id) (hty : typeOf (.builtin id) = pure (.type "method_descriptor"))
    (hfew : ((backTo pos (starEach [e] env)).all (fun x => !x.1) && (backToKw pos (keywordEach [] env)).all (fun x => x.1.isSome) && decide ([e].length + ([] : List Keyword).length + (if ([] : List Keyword).isEmpty then 0 else 1) < 30)) = true)
    (he : starEach [e] env = [(false, eval e env)])
    (ho : Ev W d env σ o a) (hT : ∀ V l h v, VRep V l h v a → (∀ s : Shared, s.TypeIs v T) ∧ ∀ b, v ≠ .ref b) (hb : Ev W d env σ e b) (hc : CallSp W d (.builtin id) [a, b] r) : EvN W d env σ (.Call (.Attribute o name apos) [e] [] pos) r := by
  intro g l V A s E hR hB hE
  refine wpAny_Call_method hbase hfew hline pa slot hty (wpAny_mono (ho g l V A s E hR hB hE) (fun ov s₁ q₁ => ?_) fun _ _ x => x)
  obtain ⟨l₁, e1, r1⟩ := q₁
  have hB₁ := hB.ext e1
  have ht := hT _ _ _ _ r1
  refine ⟨ht.1 s₁, fun b e => absurd e (ht.2 b), Calls.callWith_builtin (by rw [he]; rfl) ?_⟩
  rw [he]
  refine Calls.evalArgs_plain (x := eval e env) (rest := []) (Calls.spliced_cons (wpAny_mono (hb g l₁ V A s₁ E hR hB₁ (hE.ext hB.ti e1)) (fun bv s₂ q₂ => Calls.spliced_nil ?_) fun _ _ x => x))
  obtain ⟨l₂, e2, r2⟩ := q₂
  exact wp_after (e1.trans e2) (hc g l₂ (fun a => V a ∨ Fresh s a) A s₂ E [ov, bv] hR (hB₁.ext e2) (.cons (r1.ext hB₁.ti e2 fun _ x => x) (.cons (r2.wid fun a x => x.imp (fun q => q) (fresh_of_ext e1.toExt0 a)) .nil)))

theorem isT_int {i : Int} : ∀ V l h v, VRep V l h v (.int i) → (∀ s : Shared, s.TypeIs v "int") ∧ ∀ b, v ≠ .ref b := fun _ _ _ _ r =>
  let ⟨_, e⟩ := r.shape; e ▸ ⟨fun s => typeIs_int s _ _, fun _ e => nomatch e⟩
theorem isT_str {x : PySem.Str} : ∀ V l h v, VRep V l h v (.str x) → (∀ s : Shared, s.TypeIs v "str") ∧ ∀ b, v ≠ .ref b := fun _ _ _ _ r =>
  let ⟨_, e, _⟩ := r.shape; e ▸ ⟨fun s => typeIs_str s _ _, fun _ e => nomatch e⟩

theorem CallSp.bits {a : Int} : CallSp W d (.builtin "int.bit_length") [.int a] (.int (Builtin.Int.intBits a)) := by
  intro g l V A s E vs hR hB hv
  obtain ⟨v, rfl, h1⟩ := hv.one
  obtain ⟨t, rfl⟩ := h1.shape
  exact call_int_bit_length ⟨_, Ext.next hB.ti hB.tok, .int _ _⟩
theorem CallSp.lower {x : PySem.Str} (hl : x.length ≤ 1000000) : CallSp W d (.builtin "str.lower") [.str x] (.str (Txt.lower x)) := by
  intro g l V A s E vs hR hB hv
  obtain ⟨v, rfl, h1⟩ := hv.one
  obtain ⟨t, rfl, _⟩ := h1.shape
  exact SC.lower (fit_lower (by omega)) ⟨_, Ext.text hB.ti hB.tok, .str _ _ (Lab.add_self ..)⟩

/-- texts glued -/
noncomputable def catS (ss : List PySem.Str) : PySem.Str := ⟨(ss.flatMap (·.cps.toList)).toArray⟩
theorem foldl_cat : ∀ (ss : List PySem.Str) (a : Array Nat), ss.foldl (fun acc p => acc ++ (#[] : Array Nat) ++ p.cps) a = a ++ (ss.flatMap (·.cps.toList)).toArray
  | [], a => by simp
  | x :: ss, a => by
    rw [List.foldl_cons, foldl_cat ss]
    apply Array.toList_inj.mp
    simp [List.flatMap_cons]
theorem glued_empty (ss : List PySem.Str) : Builtin.Str.glued ⟨#[]⟩ ss = catS ss := by
  cases ss with
  | nil => rfl
  | cons x ss =>
    unfold Builtin.Str.glued catS
    simp only [List.drop_succ_cons, List.drop_zero, List.headD_cons, foldl_cat]
    simp [List.flatMap_cons]
theorem catS_one (x : PySem.Str) : catS [x] = x := by simp [catS]

theorem CallSp.join {ss : List PySem.Str} (hl : (ss.map (·.length)).sum ≤ 1000000) : CallSp W d (.builtin "str.join") [.str ⟨#[]⟩, .list (ss.map .str)] (.str (catS ss)) := by
  intro g l V A s E vs hR hB hv
  obtain ⟨v, u, rfl, h1, h2⟩ := hv.two
  obtain ⟨t, rfl, _⟩ := h1.shape
  obtain ⟨a, us, rfl, _, hp, hs⟩ := h2.shape
  have hst := hs.strs
  obtain ⟨lp, hvl, htl⟩ := strsAre_values hst
  have hok : JoinOk ⟨#[]⟩ ss = true := joinOk_of (Nat.le_trans (Nat.le_of_eq (show (ss.map (·.length)).sum + ss.length * 0 = _ from Nat.add_zero _)) (Nat.le_trans hl (by decide)))
  have hlen := joinFit_length (by unfold JoinOk at hok; rwa [Bool.not_eq_true'] at hok)
  unfold Txt.join at hlen
  rw [glued_empty] at hlen
  subst hvl
  refine call_meets F.slot_str_join (typeIs_str _ _ _) F.entry_str_join (F.args_str_join_2 _ _) (meets_str_join_list ⟨#[]⟩ t a lp (by rw [htl]; unfold JoinOk at hok; rwa [Bool.not_eq_true'] at hok)) ⟨hp.isList, ?_⟩
  have other : (Made.str (Builtin.Str.glued ⟨#[]⟩ (lp.map (·.1)))).post (fun v s' => ∃ l', Ext W l s l' s' ∧ VRep (Fresh s) l' s'.heap v (.str (catS ss))) s := by
    rw [htl, glued_empty]
    exact ⟨hlen, _, Ext.text hB.ti hB.tok, .str _ _ (Lab.add_self ..)⟩
  match lp, other with
  | [], other => exact other
  | _ :: _ :: _, other => exact other
  | [(y, u)], _ =>
    subst htl
    obtain ⟨_, _, e, hq, _⟩ := hs.shape
    cases e
    rw [show catS (List.map (·.1) [(y, u)]) = y from catS_one y]
    obtain ⟨_, e2, hq⟩ := hq.shape
    cases e2
    exact ⟨_, Ext.refl hB.ti hB.tok, .str _ _ hq⟩
end
end Mine

namespace Mine
local macro_rules | `(tactic| omega) => `(tactic| lia)

/-- an iterator over xs, made since s0 -/
structure IterAt (W : Wd) (A : Around) (I : Addr) (xs : List PV) (V : Addr → Prop) (s0 : Shared) (l : Lab) (s : Shared) (fp : List Addr) (n : Nat) (P : Nat → Value → Prop) (St : Nat → Heap → Prop) : Prop where
  walk : Walks W.prog W.w A I fp [I] n P St
  len : n = xs.length
  st : St 0 s.heap
  item : ∀ i v x, P i v → xs[i]? = some x → VRep V l s.heap v x
  fresh : s0.heap.get? I = none
  live : ∀ i h, St i h → ∃ o vs, h.get? I = some o ∧ NotCode o ∧ o.data = .fields vs
  fp : ∀ b ∈ fp, b < s.heap.objs.size ∧ b ∉ W.tabs ∧ (b = I ∨ (V b ∧ ∃ its, s.heap.PlainList b its))
noncomputable def IterOk (W : Wd) (A : Around) (it : Value) (xs : List PV) (V : Addr → Prop) (s0 : Shared) (l : Lab) (s : Shared) : Prop :=
  ∃ I fp n P St, it = .ref I ∧ IterAt W A I xs V s0 l s fp n P St

noncomputable def EvI (W : Wd) (d : Nat) (env : Env) (σ : Loc) (e : Expr) (xs : List PV) : Prop :=
  ∀ (g : Heap) (l : Lab) (V : Addr → Prop) (A : Around) (s : Shared) (E : Value → Shared → Prop), Rm d A → Base W g l s → EnvOk env σ V l s.heap →
    wpAny W.M A (eval e env) (fun v s₁ => wpAny W.M A (pyIter v) (fun it s₂ => ∃ l', Ext W l s l' s₂ ∧ IterOk W A it xs (fun a => V a ∨ Fresh s a) s l' s₂) E s₁) E s

section
variable {W : Wd} {d : Nat} {env : Env} {σ : Loc}

theorem fields_notab {h : Heap} {a : Addr} {o : Obj} (ti : W.TI h) (ho : h.get? a = some o) (hc : o.cls ≠ .none) : a ∉ W.tabs := fun hm => by
  obtain ⟨ps, e⟩ := W.ti_tab ti a hm
  rw [ho] at e; cases e; exact hc rfl

theorem size_notab {s : Shared} (ti : W.TI s.heap) : s.heap.objs.size ∉ W.tabs := fun hm => by
  obtain ⟨ps, e⟩ := W.ti_tab ti _ hm; rw [fresh_size] at e; cases e

/-- iterators: what lies in fp, what is alive -/
theorem iter_live {h : Heap} {a : Addr} {c : String} {vs : Array Value} {o : Obj} (ho : h.get? a = some o) (hc : o.cls = .type c) (hd : o.data = .fields vs) (h1 : ∀ x t, vs[1]? ≠ some (.str x t)) : ∃ o vs, h.get? a = some o ∧ NotCode o ∧ o.data = .fields vs :=
  ⟨o, vs, ho, .inr ⟨(fun q => nomatch hc.symm.trans q), vs, hd, h1⟩, hd⟩
theorem fp_new {V : Addr → Prop} {s : Shared} {o : Obj} (ti : W.TI s.heap) : s.heap.objs.size < (s.heap.push o).objs.size ∧ s.heap.objs.size ∉ W.tabs ∧ (s.heap.objs.size = s.heap.objs.size ∨ (V s.heap.objs.size ∧ ∃ its, (s.heap.push o).PlainList s.heap.objs.size its)) :=
  ⟨Heap.size_push .. ▸ Nat.lt_succ_self _, size_notab ti, .inl rfl⟩
theorem fp_list {V : Addr → Prop} {s : Shared} {o : Obj} {I a : Addr} {vs : Array Value} (ti : W.TI s.heap) (ha : V a) (hp : s.heap.PlainList a vs) : a < (s.heap.push o).objs.size ∧ a ∉ W.tabs ∧ (a = I ∨ (V a ∧ ∃ its, (s.heap.push o).PlainList a its)) :=
  let ⟨n, e⟩ := hp; ⟨Heap.size_push .. ▸ Nat.lt_succ_of_lt (Heap.lt_size e), seq_notab ti e ⟨_, _, rfl⟩, .inr ⟨ha, _, n, Heap.get?_push_of_some _ e⟩⟩
theorem fp_two {I a : Addr} {P : Addr → Prop} (h1 : P I) (h2 : P a) : ∀ b ∈ [I, a], P b := fun b hb => (List.mem_cons.mp hb).elim (fun e => e ▸ h1) fun hb => (List.mem_singleton.mp hb) ▸ h2

theorem iter_list {A : Around} {a : Addr} {vs : List Value} {xs : List PV} {V : Addr → Prop} {l : Lab} {s0 s : Shared} (hh : A.handled = none) (ti : W.TI s.heap) (hp : s.heap.PlainList a vs.toArray) (ha : V a) (hvs : VReps V l s.heap vs xs) (hf : ∀ b, Fresh s b → Fresh s0 b) :
    IterOk W A (.ref s.heap.objs.size) xs V s0 l { s with heap := s.heap.push { cls := .type "list_iterator", data := .fields #[.ref a, .int 0 0] } } :=
  have hne : a ≠ s.heap.objs.size := let ⟨n, e⟩ := hp; Nat.ne_of_lt (Heap.lt_size e)
  ⟨_, _, _, _, _, rfl, Walks.list (prog := W.prog) (w := W.w) (A := A) hh s.heap.objs.size a hne vs.toArray, hvs.length, ⟨⟨_, Heap.get?_push_size _ rfl, rfl, rfl⟩, hp.isList.push _⟩,
    fun i v x hP hx => let ⟨u, hu, r⟩ := hvs.get i hx; (Option.some.inj (hu.symm.trans ((List.getElem?_toArray ..).symm.trans (show vs.toArray[i]? = some v from hP))) : u = v) ▸ r.le fun _ _ e => Heap.get?_push_of_some _ e,
    hf _ fresh_size, fun i h st => let ⟨o, ho, hc, hd⟩ := st.1; iter_live ho hc hd fun _ _ => nofun,
    fp_two (fp_new ti) (fp_list ti ha hp)⟩

theorem EvI.list {e : Expr} {xs : List PV} (h : Ev W d env σ e (.list xs)) : EvI W d env σ e xs := by
  intro g l V A s E hR hB hE
  refine wpAny_mono (h g l V A s E hR hB hE) (fun v s₁ q₁ => ?_) fun _ _ x => x
  obtain ⟨l₁, e1, r1⟩ := q₁
  have hB₁ := hB.ext e1
  obtain ⟨a, us, rfl, ha, hp, hs⟩ := r1.shape
  exact wpAny_pyIter_list hp.isList ⟨_, e1.trans (Ext.push hB₁.ti hB₁.tok), iter_list hR.hd hB₁.ti hp ha hs fun b hb => fresh_of_ext e1.toExt0 b hb⟩

/-- the ints of a range -/
noncomputable def rangeL (a c : Int) (n : Nat) : List PV := (List.range n).map fun (i : Nat) => PV.int (a + (i : Int) * c)
theorem rangeL_length (a c : Int) (n : Nat) : (rangeL a c n).length = n := by simp [rangeL]
theorem rangeL_get (a c : Int) (n i : Nat) (h : i < n) : (rangeL a c n)[i]? = some (.int (a + (i : Int) * c)) := by simp [rangeL, h]

theorem rangeL_in {a c : Int} {n i : Nat} {x : PV} (h : (rangeL a c n)[i]? = some x) : x = .int (a + (i : Int) * c) := by
  have hi := (List.getElem?_eq_some_iff.mp h).1
  rw [rangeL_length] at hi
  exact Option.some.inj (h.symm.trans (rangeL_get a c n i hi))
theorem iter_range {A : Around} {r : Addr} {a b c : Int} {t u v : Tok} {n : Nat} {V : Addr → Prop} {l : Lab} {s0 s : Shared} {E : Value → Shared → Prop} (hh : A.handled = none) (ti : W.TI s.heap) (tk : TokOk l s) (hr : IsRange s.heap r a b c t u v)
    (hsm : Builtin.Range.small a b c = true) (hn : Builtin.Range.rangeSize a b c = (n : Int)) (hf : ∀ b, Fresh s b → Fresh s0 b) :
    wpAny W.M A (pyIter (.ref r)) (fun it s₂ => ∃ l', Ext W l s l' s₂ ∧ IterOk W A it (rangeL a c n) V s0 l' s₂) E s := by
  refine wpAny_pyIter_range hr hsm ?_
  refine ⟨_, Ext.push ti tk, _, _, _, _, _, rfl, Walks.range (prog := W.prog) (w := W.w) (A := A) hh s.heap.objs.size a c n, (rangeL_length a c n).symm, ?_, fun i v x hP hx => let ⟨t, e⟩ := hP; e ▸ rangeL_in hx ▸ .int _ _, hf _ fresh_size,
    fun i h st => iter_live st rfl rfl fun _ _ => nofun, fun b hb => List.mem_singleton.mp hb ▸ fp_new ti⟩
  rw [hn]
  show IsRangeIter _ _ (a + ((0 : Nat) : Int) * c) ((n : Int) - ((0 : Nat) : Int)) c
  rw [show a + ((0 : Nat) : Int) * c = a from (congrArg (a + ·) (Int.zero_mul c)).trans (Int.add_zero a), show ((n : Int) - ((0 : Nat) : Int)) = n from Int.sub_zero _]
  exact Heap.get?_push_size _ rfl

/-- a range made by a call -/
noncomputable def RangeCall (W : Wd) (as : List PV) (a b c : Int) : Prop :=
  ∀ (V : Addr → Prop) (l : Lab) (h : Heap) (vs : List Value), VReps V l h vs as → ∀ (A : Around) (s : Shared) (E : Value → Shared → Prop) (Q : Value → Shared → Prop),
    (∀ o t u v tk, o = ({ cls := .type "range", data := .fields #[.int a t, .int b u, .int c v] } : Obj) → s.toks ≤ tk → Q (.ref s.heap.objs.size) { s with heap := s.heap.push o, toks := tk }) → wpAny W.M A (call (.type "range") vs) Q E s
theorem RangeCall.one {n : Int} : RangeCall W [.int n] 0 n 1 := by
  intro V l h vs hv A s E Q hq
  obtain ⟨v, rfl, h1⟩ := hv.one
  obtain ⟨t, rfl⟩ := h1.shape
  exact call_range_1 (hq _ _ _ _ _ rfl (Nat.le_succ_of_le (Nat.le_succ _)))
theorem RangeCall.two {a b : Int} : RangeCall W [.int a, .int b] a b 1 := by
  intro V l h vs hv A s E Q hq
  obtain ⟨v, u, rfl, h1, h2⟩ := hv.two
  obtain ⟨t, rfl⟩ := h1.shape
  obtain ⟨t2, rfl⟩ := h2.shape
  exact call_range_2 (hq _ _ _ _ _ rfl (Nat.le_succ _))
theorem RangeCall.three {a b c : Int} (hc : c ≠ 0) (hp : Builtin.divisionGoesByPylong (b - a) c = false) : RangeCall W [.int a, .int b, .int c] a b c := by
  intro V l h vs hv A s E Q hq
  obtain ⟨v, u, w, rfl, h1, h2, h3⟩ := hv.three
  obtain ⟨t, rfl⟩ := h1.shape
  obtain ⟨t2, rfl⟩ := h2.shape
  obtain ⟨t3, rfl⟩ := h3.shape
  exact call_range_3 hc (hq _ _ _ _ _ rfl (Nat.le_refl _)) (.inl hp)

theorem EvI.range {f : PySem.Str} {p pos : Pos} {e : Expr} {rest : List Expr} {as : List PV} {a b c : Int} {n : Nat} (G : GNm W env f (.type "range")) (ha : EvL W d env σ (e :: rest) as)
    (he : starEach (e :: rest) env = (false, eval e env) :: starEach rest env) (hpl : (backTo pos (starEach rest env)).any (·.1) = false) (hc : RangeCall W as a b c)
    (hsm : Builtin.Range.small a b c = true) (hn : Builtin.Range.rangeSize a b c = (n : Int)) : EvI W d env σ (.Call (.Name f p) (e :: rest) [] pos) (rangeL a c n) := by
  intro g l V A s E hR hB hE
  refine wpAny_Call_NameR (G.load hB hE ?_)
  refine callWith_any (.inr (.inl ⟨_, rfl⟩)) (by rw [he]; show (false || (backTo pos (starEach rest env)).any (·.1)) = false; rw [hpl]; rfl) hB ?_
  have hm := ha pos g l V A s E hR hB hE
  rw [he] at hm ⊢
  refine Calls.evalArgs_plain (x := eval e env) (rest := backTo pos (starEach rest env)) (wpAny_mono hm (fun vs s₁ q₁ => ?_) fun _ _ x => x)
  obtain ⟨l₁, e1, r1⟩ := q₁
  have hB₁ := hB.ext e1
  refine ⟨⟨_, e1⟩, hc _ _ _ _ r1 A s₁ E _ fun o t u v tk ho htk => ?_⟩
  subst ho
  have e2 : Ext W l₁ s₁ l₁ { s₁ with heap := s₁.heap.push { cls := .type "range", data := .fields #[.int a t, .int b u, .int c v] }, toks := tk } := (Ext0.push hB₁.ti).up hB₁.tok htk
  refine wpAny_mono (iter_range (W := W) (V := fun a => V a ∨ Fresh s a) (s0 := s) (n := n) hR.hd e2.ti e2.tk (IsRange.new _ _ _ _ _ _ _) hsm hn fun b hb => fresh_of_ext (e1.trans e2).toExt0 b hb) (fun it s₂ q₂ => ?_) fun _ _ x => x
  obtain ⟨l₂, e3, r3⟩ := q₂
  exact ⟨_, (e1.trans e2).trans e3, r3⟩

theorem rev_item {V : Addr → Prop} {l : Lab} {h : Heap} {vs : List Value} {xs : List PV} {i : Nat} {v : Value} {x : PV} (hs : VReps V l h vs xs) (hP : vs.toArray[vs.toArray.size - 1 - i]? = some v) (hx : xs.reverse[i]? = some x) : VRep V l h v x := by
  have hi := (List.getElem?_eq_some_iff.mp hx).1
  rw [List.length_reverse] at hi
  rw [List.getElem?_reverse hi] at hx
  obtain ⟨u, hu, r⟩ := hs.get _ hx
  rw [List.getElem?_toArray, List.size_toArray, hs.length, hu] at hP
  exact Option.some.inj hP ▸ r
theorem EvI.rev {f : PySem.Str} {p pos : Pos} {e : Expr} {xs : List PV} (G : GNm W env f (.type "reversed")) (ha : Ev W d env σ e (.list xs)) (he : starEach [e] env = [(false, eval e env)]) : EvI W d env σ (.Call (.Name f p) [e] [] pos) xs.reverse := by
  intro g l V A s E hR hB hE
  refine wpAny_Call_NameR (G.load hB hE ?_)
  refine callWith_any (.inr (.inl ⟨_, rfl⟩)) (by rw [he]; rfl) hB ?_
  rw [he]
  refine Calls.evalArgs_plain (x := eval e env) (rest := []) (Calls.spliced_cons (wpAny_mono (ha g l V A s E hR hB hE) (fun v s₁ q₁ => Calls.spliced_nil ?_) fun _ _ x => x))
  obtain ⟨l₁, e1, r1⟩ := q₁
  have hB₁ := hB.ext e1
  refine ⟨⟨_, e1⟩, ?_⟩
  obtain ⟨a, vs, rfl, ha, hp, hs⟩ := r1.shape
  have hlt : a ≠ s₁.heap.objs.size := let ⟨n, e⟩ := hp; Nat.ne_of_lt (Heap.lt_size e)
  refine call_reversed_list hp.isList ?_
  have hit : Heap.IsRevIter (s₁.heap.push (revObj a ((vs.toArray.size : Int) - 1))) s₁.heap.objs.size a ((vs.toArray.size : Int) - 1) := ⟨_, Heap.get?_push_size _ rfl, rfl, rfl⟩
  exact wpAny_pyIter_revIter hit ⟨_, e1.trans (Ext.push hB₁.ti hB₁.tok), _, _, _, _, _, rfl, Walks.listRev (prog := W.prog) (w := W.w) (A := A) hR.hd s₁.heap.objs.size a hlt vs.toArray, hs.length.trans (List.length_reverse ..).symm,
    ⟨Nat.zero_le _, (show ((vs.toArray.size : Int) - 1) = (vs.toArray.size : Int) - 1 - ((0 : Nat) : Int) from (Int.sub_zero _).symm) ▸ hit, hp.isList.push _⟩,
    fun i v x hP hx => (rev_item hs hP hx).le fun _ _ e => Heap.get?_push_of_some _ e, fresh_of_ext e1.toExt0 _ fresh_size, fun i h st => let ⟨o, ho, hc, hd⟩ := st.2.1; iter_live ho hc hd fun _ _ => nofun,
    fp_two (fp_new (V := fun a => V a ∨ Fresh s a) hB₁.ti) (fp_list (V := fun a => V a ∨ Fresh s a) hB₁.ti ha hp)⟩
end
end Mine

namespace Mine
local macro_rules | `(tactic| omega) => `(tactic| lia)

/-! the cells that a block closes over -/
theorem closure_loop (env : Env) (f : PySem.Str × NameKind → List (PySem.Str × Addr) → Sem (ForInStep (List (PySem.Str × Addr))))
    (hf : ∀ n k cs, f (n, k) cs = if k == .free then (do let c ← cellOf env n; pure (.yield ((n, c) :: cs))) else pure (.yield cs)) :
    ∀ (names : List (PySem.Str × NameKind)) (acc : List (PySem.Str × Addr)), (∀ n c, (n, c) ∈ acc → env.cells.lookup n = some c) → (∀ p ∈ names, p.2 = .free → (env.cells.lookup p.1).isSome = true) →
      ∃ cl, forIn names acc f = (pure cl : Sem _) ∧ (∀ n c, (n, c) ∈ cl → env.cells.lookup n = some c) ∧ (∀ n c, (n, c) ∈ acc → (n, c) ∈ cl) ∧ ∀ n, (n, NameKind.free) ∈ names → ∃ c, (n, c) ∈ cl
  | [], acc, ha, _ => ⟨acc, by rw [List.forIn_nil], ha, fun _ _ h => h, fun _ h => nomatch h⟩
  | (n, k) :: r, acc, ha, hn => by
    have hr : ∀ p ∈ r, p.2 = .free → (env.cells.lookup p.1).isSome = true := fun p hp => hn p (.tail _ hp)
    rw [List.forIn_cons, hf]
    by_cases hk : k = .free
    · subst hk
      obtain ⟨c, hc⟩ := Option.isSome_iff_exists.mp (hn (n, .free) (.head _) rfl)
      have ha' : ∀ n' c', (n', c') ∈ (n, c) :: acc → env.cells.lookup n' = some c' := fun n' c' h => by
        rcases List.mem_cons.mp h with e | e
        · cases e; exact hc
        · exact ha _ _ e
      obtain ⟨cl, e1, e2, e3, e4⟩ := closure_loop env f hf r ((n, c) :: acc) ha' hr
      refine ⟨cl, ?_, e2, fun n' c' h => e3 _ _ (.tail _ h), fun n' h => ?_⟩
      · have : cellOf env n = pure c := by unfold cellOf; rw [hc]
        rw [this]; exact e1
      · rcases List.mem_cons.mp h with e | e
        · cases e; exact ⟨c, e3 _ _ (.head _)⟩
        · exact e4 _ e
    · have hb : (k == NameKind.free) = false := by simpa using hk
      obtain ⟨cl, e1, e2, e3, e4⟩ := closure_loop env f hf r acc ha hr
      refine ⟨cl, ?_, e2, e3, fun n' h => ?_⟩
      · rw [hb]; exact e1
      · rcases List.mem_cons.mp h with e | e
        · cases e; exact absurd rfl hk
        · exact e4 _ e

theorem lookup_of_all {cl : List (PySem.Str × Addr)} {env : Env} (h : ∀ n c, (n, c) ∈ cl → env.cells.lookup n = some c) {n : PySem.Str} {c : Addr} (hm : (n, c) ∈ cl) : cl.lookup n = env.cells.lookup n := by
  have h1 : (cl.lookup n).isSome = true := by
    clear h
    induction cl with
    | nil => cases hm
    | cons q r ih =>
      obtain ⟨m, e⟩ := q
      rw [List.lookup_cons]
      by_cases hq : (n == m) = true
      · rw [hq]; rfl
      · have hq' : (n == m) = false := by simpa using hq
        rw [hq']
        rcases List.mem_cons.mp hm with e' | e'
        · cases e'; simp at hq
        · exact ih e'
  obtain ⟨c', hc'⟩ := Option.isSome_iff_exists.mp h1
  rw [hc', h n c' (mem_of_lookup hc')]

theorem closure_ok {scope : Scope} {env : Env} (h : ∀ p ∈ scope.names, p.2 = .free → (env.cells.lookup p.1).isSome = true) :
    ∃ cl, closureFor scope env = pure cl ∧ (∀ n, (n, NameKind.free) ∈ scope.names → cl.lookup n = env.cells.lookup n) ∧ ∀ n c, (n, c) ∈ cl → env.cells.lookup n = some c := by
  obtain ⟨cl, e1, e2, _, e4⟩ := closure_loop env (fun x cs => match x with
    | (name, kind) => if (kind == NameKind.free) = true then (do let c ← cellOf env name; pure (.yield ((name, c) :: cs))) else pure (.yield cs)) (fun n k cs => rfl) scope.names [] (fun _ _ h => nomatch h) h
  refine ⟨cl, ?_, fun n hn => ?_, e2⟩
  · show (forIn scope.names [] _ >>= fun cs => pure cs) = pure cl
    exact (congrArg (fun t => t >>= fun cs => pure cs) e1).trans rfl
  · obtain ⟨c, hc⟩ := e4 n hn
    exact lookup_of_all e2 hc

theorem lookup_relabel_free {env : Env} : ∀ {names : List (PySem.Str × NameKind)} {x : PySem.Str}, names.lookup x = some .free →
    (names.map fun (n, k) => if (k == NameKind.free && env.scope.kind == .function && env.kindOf n == some .cell) then (n, NameKind.cell) else (n, k)).lookup x = some .cell ∨
    (names.map fun (n, k) => if (k == NameKind.free && env.scope.kind == .function && env.kindOf n == some .cell) then (n, NameKind.cell) else (n, k)).lookup x = some .free
  | [], _, h => by simp at h
  | (n, k) :: r, x, h => by
    have ih := @lookup_relabel_free env r x
    simp only [List.map_cons]
    cases hx : x == n with
    | true =>
      simp only [List.lookup_cons, hx] at h
      cases h
      by_cases hc : ((NameKind.free == NameKind.free) && env.scope.kind == .function && env.kindOf n == some .cell) = true
      · rw [if_pos hc]; left; simp [List.lookup_cons, hx]
      · rw [if_neg hc]; right; simp [List.lookup_cons, hx]
    | false =>
      simp only [List.lookup_cons, hx] at h
      by_cases hc : (k == NameKind.free && env.scope.kind == .function && env.kindOf n == some .cell) = true
      · rw [if_pos hc]; simp only [List.lookup_cons, hx]; exact ih h
      · rw [if_neg hc]; simp only [List.lookup_cons, hx]; exact ih h

theorem mem_of_lookupN {α : Type} : ∀ {l : List (PySem.Str × α)} {n : PySem.Str} {k : α}, l.lookup n = some k → (n, k) ∈ l
  | (m, v) :: r, n, k, h => by
    rw [List.lookup_cons] at h
    cases hb : n == m with
    | true => rw [hb] at h; cases h; rw [beq_iff_eq.mp hb]; exact .head _
    | false => rw [hb] at h; exact .tail _ (mem_of_lookupN h)

/-- the block of a comprehension, looked at once -/
noncomputable def compOk (scope : Scope) (env : Env) (xs : List PySem.Str) : Bool :=
  scope.kind == .function && xs.all (fun x => scope.names.lookup x == some .local) &&
  scope.names.all fun p => p.2 != .cell && (p.2 != .local || scope.names.lookup p.1 == some .local) && (p.2 != .free || ((env.cells.lookup p.1).isSome && (env.kindOf p.1 == some .cell || env.kindOf p.1 == some .free)))

structure CompOk (scope : Scope) (env : Env) (xs : List PySem.Str) : Prop where
  kind : scope.kind = .function
  hx : ∀ x ∈ xs, scope.names.lookup x = some .local
  cell : ∀ p ∈ scope.names, p.2 ≠ .cell
  names : ∀ p ∈ scope.names, p.2 = .local → scope.names.lookup p.1 = some .local
  free : ∀ p ∈ scope.names, p.2 = .free → (env.cells.lookup p.1).isSome = true
  frees : ∀ p ∈ scope.names, p.2 = .free → env.kindOf p.1 = some .cell ∨ env.kindOf p.1 = some .free
theorem CompOk.of {scope : Scope} {env : Env} {xs : List PySem.Str} (h : compOk scope env xs = true) : CompOk scope env xs := by
  unfold compOk at h
  simp only [Bool.and_eq_true, List.all_eq_true, beq_iff_eq, bne_iff_ne, Bool.or_eq_true, ne_eq] at h
  obtain ⟨⟨h1, h2⟩, h3⟩ := h
  exact ⟨h1, h2, fun p hp => ((h3 p hp).1).1, fun p hp hl => ((h3 p hp).1.2).resolve_left fun q => q hl, fun p hp hl => (((h3 p hp).2).resolve_left fun q => q hl).1, fun p hp hl => (((h3 p hp).2).resolve_left fun q => q hl).2⟩

/-- what a comprehension's block sees -/
noncomputable def compσ (scope : Scope) (σ : Loc) (vars : Loc) : Loc := fun y => match vars y with
  | some v => some v
  | none => if scope.names.lookup y = some .free then σ y else none

section
variable {W : Wd} {d : Nat} {env : Env} {σ : Loc}

theorem EnvOk.comp {scope : Scope} {cl : List (PySem.Str × Addr)} {C : Addr} {V : Addr → Prop} {l : Lab} {h : Heap} {vars : Loc} {m : PySem.Str → Option Value} {xs : List PySem.Str} (hE : EnvOk env σ V l h) (ok : CompOk scope env xs)
    (hcl : ∀ n, (n, NameKind.free) ∈ scope.names → cl.lookup n = env.cells.lookup n) (hn : h.Ns C m) (hv : ∀ y pv, vars y = some pv → y ∈ xs ∧ ∃ v, m y = some v ∧ VRep V l h v pv) : EnvOk (compEnvC scope cl C env) (compσ scope σ vars) V l h where
  fn := ⟨ok.kind, hE.fn.gl, hE.fn.bu⟩
  names := fun y pv hy => by
    unfold compσ at hy
    cases hvy : vars y with
    | some v =>
      rw [hvy] at hy
      cases hy
      obtain ⟨hm, u, h1, h2⟩ := hv y _ hvy
      exact ⟨u, .loc (lookup_relabel_local (ok.hx y hm)) hn h1, h2⟩
    | none =>
      rw [hvy] at hy
      simp only at hy
      split at hy
      · rename_i hf
        have hmem := mem_of_lookupN hf
        obtain ⟨v, h1, h2⟩ := hE.names y pv hy
        refine ⟨v, ?_, h2⟩
        cases h1 with
        | loc h1 _ _ =>
          rcases ok.frees _ hmem rfl with h | h <;> rw [h] at h1 <;> cases h1
        | cell h1 h2 h3 => exact .cell (lookup_relabel_free hf) ((hcl y hmem).trans h2) h3
      · cases hy

noncomputable def EvTests (W : Wd) (d : Nat) (env : Env) (σ : Loc) (ifs : List Expr) (b : Bool) : Prop :=
  ∀ (g : Heap) (l : Lab) (V : Addr → Prop) (A : Around) (s : Shared) (E : Value → Shared → Prop), Rm d A → Base W g l s → EnvOk env σ V l s.heap →
    wpAny W.M A (forIn ifs true fun c r => if r = true then do let ok ← isTrue c env (eval c env); pure (ForInStep.yield ok) else pure (ForInStep.yield r)) (fun c s' => ∃ l', Ext W l s l' s' ∧ c = b) E s
theorem EvTests.nil : EvTests W d env σ [] true := fun g l V A s E hR hB hE => wpAny_tests_nil ⟨_, Ext.refl hB.ti hB.tok, rfl⟩
theorem EvTests.one {c : Expr} {b : Bool} (h : EvB W d env σ c b) : EvTests W d env σ [c] b := fun g l V A s E hR hB hE => wpAny_tests_one (h g l V A s E hR hB hE)

/-- what stands of the heap while the block runs: all but the tables, the block's names, its list and its iterators -/
structure CompSt (W : Wd) (s₃ : Shared) (l₃ : Lab) (ex : List Addr) (l : Lab) (s : Shared) : Prop where
  same : ∃ h tk, s = { s₃ with heap := h, toks := tk }
  keep : ∀ b o, b ∉ W.tabs → b ∉ ex → s₃.heap.get? b = some o → s.heap.get? b = some o
  ti : W.TI s.heap
  ll : LLe l₃ l
  tk : TokOk l s

theorem CompSt.step {s₃ s s' : Shared} {l₃ l l' : Lab} {ex : List Addr} (x : CompSt W s₃ l₃ ex l s) (e : Ext W l s l' s') : CompSt W s₃ l₃ ex l' s' := by
  obtain ⟨h1, t1, e1⟩ := x.same
  obtain ⟨h2, t2, e2⟩ := e.same
  exact ⟨⟨h2, t2, by rw [e2, e1]⟩, fun b o hb hx q => e.keep b o hb (x.keep b o hb hx q), e.ti, fun t z q => e.ll t z (x.ll t z q), e.tk⟩
/-- a store into one of the excepted objects -/
theorem CompSt.but {s₃ s : Shared} {l₃ l : Lab} {ex : List Addr} {a : Addr} {h' : Heap} {tk : Nat} (x : CompSt W s₃ l₃ ex l s) (ha : a ∈ ex) (hs : ∀ b o, b ≠ a → s.heap.get? b = some o → h'.get? b = some o) (ti : W.TI h') (htk : s.toks ≤ tk) : CompSt W s₃ l₃ ex l { s with heap := h', toks := tk } := by
  obtain ⟨h1, t1, e1⟩ := x.same
  exact ⟨⟨h', tk, by rw [e1]⟩, fun b o hb hx q => hs b o (fun q' => hx (q' ▸ ha)) (x.keep b o hb hx q), ti, x.ll, x.tk.up htk⟩

theorem CompSt.base {g : Heap} {s₃ s : Shared} {l₃ l : Lab} {ex : List Addr} (x : CompSt W s₃ l₃ ex l s) (hB : Base W g l₃ s₃) (hg : ∀ a ∈ ex, g.get? a = none) : Base W g l s :=
  ⟨hB.gl, fun b o e => x.keep b o (fun hb => by rw [hB.gl.notab b hb] at e; cases e) (fun hb => by rw [hg b hb] at e; cases e) (hB.le b o e), x.ti, x.tk⟩

/-- names and values outlive the block's stores -/
theorem CompSt.envOk {s₃ s : Shared} {l₃ l : Lab} {ex : List Addr} {V : Addr → Prop} (x : CompSt W s₃ l₃ ex l s) (ti₃ : W.TI s₃.heap) (hE : EnvOk env σ V l₃ s₃.heap)
    (hex : ∀ a ∈ ex, s₃.heap.get? a = none ∨ ∃ o vs, s₃.heap.get? a = some o ∧ o.data = .fields vs) : EnvOk env σ V l s.heap where
  fn := hE.fn
  names := fun y pv hy => by
    obtain ⟨v, h1, h2⟩ := hE.names y pv hy
    have notex : ∀ a o, s₃.heap.get? a = some o → (∀ vs, o.data ≠ .fields vs) → a ∉ ex := fun a o ho hd hm => by
      rcases hex a hm with e | ⟨o', vs, e, e'⟩
      · rw [ho] at e; cases e
      · rw [ho] at e; cases e; exact hd vs e'
    refine ⟨v, ?_, h2.mono (fun _ q => q) x.ll fun a o _ _ hd ho => x.keep a o (seq_notab ti₃ ho hd) (notex a o ho fun vs q => by obtain ⟨its, n, hd⟩ := hd; rw [hd] at q; cases q) ho⟩
    cases h1 with
    | loc q1 q2 q3 =>
      have nt := dict_notab ti₃ q2
      obtain ⟨o, es, ep, ho, hd, r⟩ := q2
      exact .loc q1 ⟨o, es, ep, x.keep _ o nt (notex _ o ho fun vs q => by rw [hd] at q; cases q) ho, hd, r⟩ q3
    | cell q1 q2 q3 =>
      have nt := cell_notab ti₃ q3
      obtain ⟨o, ho, hd⟩ := q3
      exact .cell q1 q2 ⟨o, x.keep _ o nt (notex _ o ho fun vs q => by rw [hd] at q; cases q) ho, hd⟩
end
end Mine

namespace Mine
local macro_rules | `(tactic| omega) => `(tactic| lia)

noncomputable def one (x : PySem.Str) (y : PV) : Loc := fun z => if z = x then some y else none

noncomputable abbrev ClOk (scope : Scope) (env : Env) (cl : List (PySem.Str × Addr)) : Prop := ∀ n, (n, NameKind.free) ∈ scope.names → cl.lookup n = env.cells.lookup n

theorem Ext.thenComp {W : Wd} {s s₂ s' : Shared} {l l₂ l' : Lab} {ex : List Addr} (e : Ext W l s l₂ s₂) (x : CompSt W s₂ l₂ ex l' s') (hex : ∀ a ∈ ex, Fresh s a) : Ext W l s l' s' := by
  obtain ⟨h1, t1, e1⟩ := e.same
  obtain ⟨h2, t2, e2⟩ := x.same
  exact ⟨⟨⟨h2, t2, by rw [e2, e1]⟩, fun b o hb q => x.keep b o hb (fun hm => by have := hex b hm; rw [show s.heap.get? b = none from this] at q; cases q) (e.keep b o hb q), x.ti⟩, fun t z q => x.ll t z (e.ll t z q), x.tk⟩

section
variable {W : Wd} {d : Nat} {env : Env} {σ : Loc}

theorem notCode_seq {o : Obj} {its : Array Value} {n : Nat} (h : o.data = .seq its n) : NotCode o := .inl fun vs q => by rw [h] at q; cases q
theorem notCode_dict {o : Obj} {es : Array DictEntry} {n : Nat} (h : o.data = .dict es n) : NotCode o := .inl fun vs q => by rw [h] at q; cases q

/-- the turns of a block with one clause -/
theorem comp_turns {elt iter : Expr} {x : PySem.Str} {px : Pos} {ifs : List Expr} {scope : Scope} {pos : Pos} {cl : List (PySem.Str × Addr)} {xs : List PV} {p : PV → Bool} {f : PV → PV}
    {g : Heap} {V : Addr → Prop} {A : Around} {I D C : Addr} {l₂ l₃ : Lab} {s0 s₂ s₃ : Shared} {fp : List Addr} {n : Nat} {P : Nat → Value → Prop} {St : Nat → Heap → Prop} {R : Result → Shared → Prop} {m : PySem.Str → Option Value}
    (hR : Rm d A) (hB : Base W g l₂ s₂) (hE : EnvOk env σ V l₂ s₂.heap) (hI : IterAt W A I xs V s0 l₂ s₂ fp n P St) (hgI : g.get? I = none)
    (ok : CompOk scope env [x]) (hcl : ClOk scope env cl) (hsz : xs.length ≤ sizeLine)
    (ht : ∀ y ∈ xs, EvTests W d (compEnvC scope cl C env) (compσ scope σ (one x y)) ifs (p y))
    (he : ∀ y ∈ xs, p y = true → Ev W d (compEnvC scope cl C env) (compσ scope σ (one x y)) elt (f y))
    (himm : ∀ y ∈ xs, p y = true → (f y).imm = true)
    (hD : Fresh s₂ D) (hC : Fresh s₂ C) (hDC : D ≠ C)
    (h3 : CompSt W s₂ l₂ [I, D, C] l₃ s₃) (hst : St 0 s₃.heap) (hD3 : s₃.heap.PlainList D #[]) (hC3 : s₃.heap.Ns C m)
    (hQ : ∀ l s' ys m', CompSt W s₂ l₂ [I, D, C] l s' → s'.heap.PlainList D ys → VReps (fun _ => False) l s'.heap ys.toList ((xs.filter p).map f) → s'.heap.Ns C m' → R (.ok .next) s') :
    codeAny W.M A (.compLoop (.ListComp elt [⟨.Name x px, iter, ifs, 0⟩] scope pos) 0 (.ref I) (.ref D) (compEnvC scope cl C env)) R s₃ := by
  have hgD : g.get? D = none := by
    cases q : g.get? D with
    | none => rfl
    | some o => have := hB.le _ _ q; rw [show s₂.heap.get? D = none from hD] at this; cases this
  have hgC : g.get? C = none := by
    cases q : g.get? C with
    | none => rfl
    | some o => have := hB.le _ _ q; rw [show s₂.heap.get? C = none from hC] at this; cases this
  obtain ⟨io, ivs, hio, _, hid⟩ := hI.live 0 _ hI.st
  have hID : I ≠ D := fun q => by rw [q, show s₂.heap.get? D = none from hD] at hio; cases hio
  have hIC : I ≠ C := fun q => by rw [q, show s₂.heap.get? C = none from hC] at hio; cases hio
  have hfpD : D ∉ fp := fun hm => by
    obtain ⟨q1, q2, q3⟩ := hI.fp D hm
    rcases q3 with q3 | ⟨_, its, q3⟩
    · exact hID q3.symm
    · obtain ⟨k, q3⟩ := q3; rw [show s₂.heap.get? D = none from hD] at q3; cases q3
  have hfpC : C ∉ fp := fun hm => by
    obtain ⟨q1, q2, q3⟩ := hI.fp C hm
    rcases q3 with q3 | ⟨_, its, q3⟩
    · exact hIC q3.symm
    · obtain ⟨k, q3⟩ := q3; rw [show s₂.heap.get? C = none from hC] at q3; cases q3
  have hfpI : ∀ b ∈ fp, b ∉ W.tabs := fun b hb => (hI.fp b hb).2.1
  have hex : ∀ a ∈ [I, D, C], g.get? a = none := fun a ha => by simp at ha; rcases ha with rfl | rfl | rfl <;> assumption
  have hex2 : ∀ a ∈ [I, D, C], s₂.heap.get? a = none ∨ ∃ o vs, s₂.heap.get? a = some o ∧ o.data = .fields vs := fun a ha => by
    simp at ha
    rcases ha with rfl | rfl | rfl
    · exact .inr ⟨_, _, hio, hid⟩
    · exact .inl hD
    · exact .inl hC
  refine codeAny_compLoop_tests (fun k s' => ∃ i l ys m', k = n + 1 - i ∧ i ≤ n ∧ CompSt W s₂ l₂ [I, D, C] l s' ∧ St i s'.heap ∧ s'.heap.PlainList D ys ∧
      VReps (fun _ => False) l s'.heap ys.toList (((xs.take i).filter p).map f) ∧ s'.heap.Ns C m') ?_ (n + 1) ⟨0, l₃, #[], m, rfl, Nat.zero_le _, h3, hst, hD3, by simpa using VReps.nil, hC3⟩
  rintro k s' ⟨i, l, ys, m', rfl, hin, hc, hst', hD', hys, hC'⟩
  rcases Nat.lt_or_ge i n with hlt | hge
  · -- a turn
    refine wpAny_with_toks (Nat.le_refl _) (hI.walk.item i s' _ _ hlt hst' fun v h₁ tk₁ hP hst₁ hk₁ htk₁ => ?_)
    have hxi : i < xs.length := by rw [← hI.len]; exact hlt
    obtain ⟨y, hy⟩ : ∃ y, xs[i]? = some y := ⟨_, List.getElem?_eq_getElem hxi⟩
    have hym : y ∈ xs := List.mem_of_getElem? hy
    obtain ⟨oI, _, hoI, hnI, _⟩ := hI.live i _ hst'
    have hb1 : Heap.ExtBut I s'.heap h₁ := fun b o hb e => hk₁ b o (by simpa using hb) e
    have hc₁ : CompSt W s₂ l₂ [I, D, C] l { s' with heap := h₁, toks := tk₁ } := hc.but (by simp) (fun b o hb e => hb1 b o hb e) (W.ti_but hoI hnI hb1 hc.ti) htk₁
    have hC₁ : h₁.Ns C m' := hC'.at' fun o e => hb1 C o (Ne.symm hIC) e
    refine wpAny_assign_Name (wpAny_storeName_local (lookup_relabel_local (ok.hx x (by simp))) hC₁ (fun h₂ hn₂ hs₂ => ?_) (by simp [compEnvC, relabel, ok.kind]))
    obtain ⟨oC, esC, epC, hoC, hdC, _⟩ := id hC₁
    have hc₂ : CompSt W s₂ l₂ [I, D, C] l { s' with heap := h₂, toks := tk₁ + 1 } := hc₁.but (a := C) (by simp) (fun b o hb e => hs₂.extBut b o hb e) (W.ti_but hoC (notCode_dict hdC) hs₂.extBut hc₁.ti) (Nat.le_succ _)
    have hB₂ := hc₂.base hB hex
    have hE₂ : EnvOk (compEnvC scope cl C env) (compσ scope σ (one x y)) V l h₂ := (hc₂.envOk hB.ti hE hex2).comp ok hcl hn₂ fun z pv hz => by
      unfold one at hz
      split at hz
      · rename_i hzx; subst hzx; cases hz
        refine ⟨by simp, v, by simp, (hI.item i v y hP hy).mono (fun _ q => q) hc₂.ll fun a o _ _ hd ho => hc₂.keep a o (seq_notab hB.ti ho hd) (fun hm => ?_) ho⟩
        rcases hex2 a hm with q | ⟨o', vs, q, q'⟩
        · rw [ho] at q; cases q
        · rw [ho] at q; cases q; obtain ⟨its, nn, hd⟩ := hd; rw [hd] at q'; cases q'
      · cases hz
    have hst₂ : St (i + 1) h₂ := hI.walk.frame _ _ _ hst₁ fun b hb o e => hs₂.extBut b o (fun q => hfpC ((show b = C from q) ▸ hb)) e
    have hD₂ : h₂.PlainList D ys := (hD'.extBut hb1 (Ne.symm hID)).extBut hs₂.extBut hDC
    have hys₂ : VReps (fun _ => False) l h₂ ys.toList (((xs.take i).filter p).map f) := hys.mono (fun _ q => q) (fun _ _ q => q) fun a o q => q.elim
    refine wpAny_mono (ht y hym g l V A _ _ hR hB₂ hE₂) (fun b s₃ q₃ => ?_) fun _ _ q => q
    obtain ⟨l₃, e₃, rfl⟩ := q₃
    have up : ∀ {a : Addr} {o : Obj} {s₄ : Shared} {l₄ : Lab}, Ext W l { s' with heap := h₂, toks := tk₁ + 1 } l₄ s₄ → a ∉ W.tabs → h₂.get? a = some o → s₄.heap.get? a = some o := fun e hm q => e.keep _ _ hm q
    have stI : ∀ {l₄ : Lab} {s₄ : Shared}, Ext W l { s' with heap := h₂, toks := tk₁ + 1 } l₄ s₄ → St (i + 1) s₄.heap := fun e => hI.walk.frame _ _ _ hst₂ fun b hb o q => e.keep b o (hfpI b hb) q
    have stD : ∀ {l₄ : Lab} {s₄ : Shared}, Ext W l { s' with heap := h₂, toks := tk₁ + 1 } l₄ s₄ → s₄.heap.PlainList D ys := fun {l₄ s₄} e => by
      obtain ⟨nn, q⟩ := hD₂
      exact ⟨nn, e.keep D _ (seq_notab hB₂.ti q ⟨_, _, rfl⟩) q⟩
    have stC : ∀ {l₄ : Lab} {s₄ : Shared}, Ext W l { s' with heap := h₂, toks := tk₁ + 1 } l₄ s₄ → s₄.heap.Ns C _ := fun e => ns_ext hn₂ hB₂.ti e.toExt0
    cases hp : p y with
    | false =>
      simp only [Bool.false_eq_true, if_false]
      refine ⟨n + 1 - (i + 1), by omega, i + 1, l₃, ys, _, rfl, hlt, hc₂.step e₃, stI e₃, stD e₃, ?_, stC e₃⟩
      rw [take_succ_filter p _ i y hy, hp]
      simpa using hys₂.ext hB₂.ti e₃ fun _ q => q
    | true =>
      simp only [if_true]
      have hB₃ := hB₂.ext e₃
      refine wpAny_mono (he y hym hp g l₃ V A s₃ _ hR hB₃ (hE₂.ext hB₂.ti e₃)) (fun w s₄ q₄ => ?_) fun _ _ q => q
      obtain ⟨l₄, e₄, r₄⟩ := q₄
      have e₂₄ := e₃.trans e₄
      have hlen : ys.size ≤ sizeLine := by
        have e1 := hys.length
        have e2 : ((xs.take i).filter p).length ≤ (xs.take i).length := List.length_filter_le _ _
        have e3 : (xs.take i).length ≤ xs.length := by rw [List.length_take]; omega
        simp only [List.length_map, Array.length_toList] at e1
        omega
      refine wpAny_list_append_plain (hsz := hlen) (stD e₂₄) fun h₅ hl₅ hs₅ => ?_
      have hc₄ := hc₂.step e₂₄
      obtain ⟨nn, hoD⟩ := stD e₂₄
      have tiD := W.ti_but hoD (notCode_seq rfl) hs₅.extBut hc₄.ti
      refine ⟨n + 1 - (i + 1), by omega, i + 1, l₄, ys.push w, _, rfl, hlt, hc₄.but (a := D) (tk := s₄.toks) (by simp) (fun b o hb e => hs₅.extBut b o hb e) tiD (Nat.le_refl _), ?_, hl₅, ?_, (stC e₂₄).sameBut hs₅ (Ne.symm hDC)⟩
      · exact hI.walk.frame _ _ _ (stI e₂₄) fun b hb o e => hs₅.extBut b o (fun q => hfpD (q ▸ hb)) e
      · rw [take_succ_filter p _ i y hy, hp]
        simp only [if_true, List.map_append, List.map_cons, List.map_nil, Array.toList_push]
        refine VReps.append ?_ (.cons (r₄.of_imm (himm y hym hp)) .nil)
        exact (hys₂.ext hB₂.ti e₂₄ fun _ q => q).mono (fun _ q => q) (fun _ _ q => q) fun a o q => q.elim
  · have hi : i = n := Nat.le_antisymm hin hge
    subst hi
    refine wpAny_with_toks (Nat.le_refl _) (hI.walk.done s' _ _ hst' fun h₁ tk₁ hk₁ htk₁ => ?_)
    obtain ⟨oI, _, hoI, hnI, _⟩ := hI.live i _ hst'
    have hb1 : Heap.ExtBut I s'.heap h₁ := fun b o hb e => hk₁ b o (by simpa using hb) e
    have hc₁ : CompSt W s₂ l₂ [I, D, C] l { s' with heap := h₁, toks := tk₁ } := hc.but (by simp) (fun b o hb e => hb1 b o hb e) (W.ti_but hoI hnI hb1 hc.ti) htk₁
    refine hQ l _ ys m' hc₁ (hD'.extBut hb1 (Ne.symm hID)) ?_ (hC'.at' fun o e => hb1 C o (Ne.symm hIC) e)
    have ht' : xs.take i = xs := List.take_of_length_le (by rw [hI.len]; exact Nat.le_refl _)
    rw [ht'] at hys
    exact hys.mono (fun _ q => q) (fun _ _ q => q) fun a o q => q.elim

/-- the block's objects are made -/
theorem comp_block {elt iter : Expr} {x : PySem.Str} {px : Pos} {ifs : List Expr} {scope : Scope} {pos : Pos} {cl : List (PySem.Str × Addr)} {xs : List PV} {p : PV → Bool} {f : PV → PV}
    {g : Heap} {V : Addr → Prop} {A : Around} {I : Addr} {l₂ : Lab} {s0 s₂ : Shared} {fp : List Addr} {n : Nat} {P : Nat → Value → Prop} {St : Nat → Heap → Prop} {R : Value → Addr → Result → Shared → Prop} {E : Value → Shared → Prop}
    (hR : Rm d A) (hB : Base W g l₂ s₂) (hE : EnvOk env σ V l₂ s₂.heap) (hI : IterAt W A I xs V s0 l₂ s₂ fp n P St) (hgI : g.get? I = none)
    (ok : CompOk scope env [x]) (hcl : ClOk scope env cl) (hsz : xs.length ≤ sizeLine)
    (ht : ∀ C, ∀ y ∈ xs, EvTests W d (compEnvC scope cl C env) (compσ scope σ (one x y)) ifs (p y))
    (he : ∀ C, ∀ y ∈ xs, p y = true → Ev W d (compEnvC scope cl C env) (compσ scope σ (one x y)) elt (f y))
    (himm : ∀ y ∈ xs, p y = true → (f y).imm = true)
    (hQ : ∀ D C l s' ys m', Fresh s₂ D → Fresh s₂ C → D ≠ C → CompSt W s₂ l₂ [I, D, C] l s' → s'.heap.PlainList D ys → VReps (fun _ => False) l s'.heap ys.toList ((xs.filter p).map f) → s'.heap.Ns C m' → R (.ref D) C (.ok .next) s') :
    wpAny W.M A (newList []) (fun acc s₃ => wpAny W.M A (newFunctionEnv scope env.globals cl [] env.qual none .none (some env)) (fun cenv s₄ =>
      codeAny W.M A (.compStart (.ListComp elt [⟨.Name x px, iter, ifs, 0⟩] scope pos) 0 (.ref I) acc { cenv with scope := relabel scope env }) (R acc cenv.locals) s₄) E s₃) E s₂ := by
  refine wpAny_newObj_type (wpAny_newFunctionEnv ok.cell (by intro y hy; simp at hy) (fun h₁ hns₁ hsb₁ => ?_) ok.kind)
  dsimp only at hns₁ hsb₁ ⊢
  generalize hH2 : s₂.heap.push { cls := .type "list", dict := none, data := .seq ([] : List Value).toArray } = H2 at hns₁ hsb₁ ⊢
  have hC : H2.objs.size = s₂.heap.objs.size + 1 := by rw [← hH2, Heap.size_push]
  have hDC : s₂.heap.objs.size ≠ H2.objs.size := by rw [hC]; exact Nat.ne_of_lt (Nat.lt_succ_self _)
  have below : ∀ b, b < s₂.heap.objs.size → b ≠ H2.objs.size := fun b hb => by rw [hC]; exact Nat.ne_of_lt (Nat.lt_succ_of_lt hb)
  have old : HLe s₂.heap h₁ := fun b o e => hsb₁.extBut b o (below b (Heap.lt_size e)) (Heap.get?_push_of_some _ (hH2 ▸ Heap.get?_push_of_some _ e))
  have hacc : h₁.PlainList s₂.heap.objs.size #[] := ⟨_, hsb₁.extBut _ _ hDC (Heap.get?_push_of_some _ (hH2 ▸ Heap.get?_push_size _ rfl))⟩
  have hst₁ : St 0 h₁ := hI.walk.frame _ _ _ hI.st fun b _ o e => old b o e
  have hCf : Fresh s₂ H2.objs.size := Heap.get?_none_of_le (by rw [hC]; exact Nat.le_succ _)
  have loop : ∀ s₃ : Shared, s₃ = { s₂ with heap := h₁, toks := s₂.toks + ([] : List (PySem.Str × Value)).length } →
      codeAny W.M A (.compLoop (.ListComp elt [⟨.Name x px, iter, ifs, 0⟩] scope pos) 0 (.ref I) (.ref s₂.heap.objs.size) (compEnvC scope cl H2.objs.size env))
        (R (.ref s₂.heap.objs.size) H2.objs.size) s₃ := by
    rintro s₃ rfl
    refine comp_turns (m := fun _ => none) hR hB hE hI hgI ok hcl hsz (ht _) (he _) himm fresh_size hCf hDC ⟨⟨h₁, _, rfl⟩, fun b o _ _ e => old b o e, W.ti_le old hB.ti, fun _ _ e => e, hB.tok.up (Nat.le_add_right _ _)⟩ hst₁ hacc hns₁ fun l s' ys m' q1 q2 q3 q4 => ?_
    exact hQ _ _ l s' ys m' fresh_size hCf hDC q1 q2 q3 q4
  exact codeAny_compStart_list (loop _ rfl) (hI.walk.self 0 _ _ _ hst₁ (loop _ rfl))

/-- a list display with one clause -/
theorem EvTN.comp {elt iter : Expr} {x : PySem.Str} {px : Pos} {ifs : List Expr} {scope : Scope} {pos : Pos} {xs : List PV} {p : PV → Bool} {f : PV → PV}
    (ok : CompOk scope env [x]) (hi : EvI W d env σ iter xs) (hsz : xs.length ≤ sizeLine)
    (ht : ∀ C cl, ClOk scope env cl → ∀ y ∈ xs, EvTests W d (compEnvC scope cl C env) (compσ scope σ (one x y)) ifs (p y))
    (he : ∀ C cl, ClOk scope env cl → ∀ y ∈ xs, p y = true → Ev W d (compEnvC scope cl C env) (compσ scope σ (one x y)) elt (f y))
    (himm : ∀ y ∈ xs, p y = true → (f y).imm = true)
    (hfold : ∀ x, foldedSetIterable iter env x = pure x := by intro _; rfl) :
    EvN W d env σ (.ListComp elt [⟨.Name x px, iter, ifs, 0⟩] scope pos) (.list ((xs.filter p).map f)) := by
  intro g l V A s E hR hB hE
  obtain ⟨cl, hcl, hclo, _⟩ := closure_ok ok.free
  rw [eval_ListComp]
  refine wpAny_comprehension_free rfl hfold hcl ok.kind ok.names ?_
  refine wpAny_mono (hi g l V A s E hR hB hE) (fun v s₁ q₁ => wpAny_mono q₁ (fun it s₂ q₂ => ?_) fun _ _ q => q) fun _ _ q => q
  obtain ⟨l₂, e₂, I, fp, n, P, St, rfl, hI⟩ := q₂
  have hB₂ := hB.ext e₂
  have hgI : g.get? I = none := by
    cases q : g.get? I with
    | none => rfl
    | some o => have := hB.le _ _ q; rw [hI.fresh] at this; cases this
  refine comp_block (V := fun a => V a ∨ Fresh s a) hR hB₂ ((hE.ext hB.ti e₂).wid fun _ q => .inl q) hI hgI ok hclo hsz (fun C => ht C cl hclo) (fun C => he C cl hclo) himm fun D C l' s' ys m' hD hC hDC hc hl hys hn => ?_
  have hex : ∀ a ∈ [I, D, C], Fresh s a := fun a ha => by
    simp at ha
    rcases ha with rfl | rfl | rfl
    · exact hI.fresh
    · exact fresh_of_ext e₂.toExt0 _ hD
    · exact fresh_of_ext e₂.toExt0 _ hC
  refine ⟨m', hn, fun h' hsb => ?_⟩
  obtain ⟨oC, esC, epC, hoC, hdC, _⟩ := id hn
  have hc' : CompSt W s₂ l₂ [I, D, C] l' { s' with heap := h' } := hc.but (a := C) (tk := s'.toks) (by simp) (fun b o hb e => hsb.extBut b o hb e) (W.ti_but hoC (notCode_dict hdC) hsb.extBut hc.ti) (Nat.le_refl _)
  refine ⟨l', e₂.thenComp hc' hex, .list (vs := ys.toList) (hex D (by simp)) (by simpa using hl.extBut hsb.extBut hDC) ?_⟩
  exact (hys.mono (fun _ q => q) (fun _ _ q => q) fun a o q => q.elim).wid fun _ q => q.elim
end
end Mine

namespace Mine
local macro_rules | `(tactic| omega) => `(tactic| lia)

/-! the heap grows, and what is gone stays gone -/
structure Hm (h h' : Heap) : Prop where
  size : h.objs.size ≤ h'.objs.size
  dead : ∀ b : Nat, b < h.objs.size → h.get? b = none → h'.get? b = none
theorem Hm.refl {h : Heap} : Hm h h := ⟨Nat.le_refl _, fun _ _ e => e⟩
theorem Hm.trans {h h' h'' : Heap} (x : Hm h h') (y : Hm h' h'') : Hm h h'' := ⟨Nat.le_trans x.size y.size, fun b hb e => y.dead b (Nat.lt_of_lt_of_le hb x.size) (x.dead b hb e)⟩
theorem Hm.push {h : Heap} {o : Obj} : Hm h (h.push o) := ⟨by rw [Heap.size_push]; exact Nat.le_succ _, fun b hb e => by
  cases q : (h.push o).get? b with
  | none => rfl
  | some o' =>
    rcases Heap.get?_push_cases q with ⟨q1, _⟩ | q1
    · exact absurd hb (by rw [q1]; exact Nat.lt_irrefl _)
    · rw [e] at q1; cases q1⟩
theorem Hm.update {h : Heap} {a : Addr} {f : Obj → Obj} (ha : (h.get? a).isSome) : Hm h (h.update a f) := by
  have hs := Heap.SameBut.update (h := h) (a := a) (f := f)
  exact ⟨Nat.le_of_eq hs.1.symm, fun b hb e => by
    by_cases hba : b = a
    · subst hba; rw [e] at ha; cases ha
    · rw [hs.2 b hba]; exact e⟩

theorem Runs.hm {M : Model} {Γ : PySem.Ctx} {p : Pos} {t : Sem Fin} {fs : List Frame} {s s' : Shared} {e : End} (h : Runs M Γ p t fs s e s') : Hm s.heap s'.heap := by
  induction h <;> (try simp only [Shared.setGen] at *) <;>
    first
      | exact Hm.refl
      | assumption
      | (exact Hm.trans (by assumption) (by assumption))
      | (exact Hm.trans (Hm.update (by assumption)) (by assumption))
      | (exact Hm.trans Hm.push (by assumption))
theorem Wakes.hm {M : Model} {Γ : PySem.Ctx} {p : Pos} {g : Nat} {r : Resume} {s s' : Shared} {res : GenResult} (h : Wakes M Γ p g r s res s') : Hm s.heap s'.heap := by
  unfold Wakes at h
  split at h
  · exact h.elim
  · split at h
    · obtain ⟨e₁, s₁, hr, _, _, rfl⟩ := h; exact (Runs.hm hr : Hm (s.setGen g .running).heap s₁.heap)
    · rw [h.2]; exact Hm.refl
    · rw [h.2]; exact Hm.refl
  · obtain ⟨e₁, s₁, hr, _, _, rfl⟩ := h; exact (Runs.hm hr : Hm (s.setGen g .running).heap s₁.heap)
  · rw [h.2]; exact Hm.refl
  · rw [h.2]; exact Hm.refl

theorem wp_hm {α : Type} (M : Model) (Γ : PySem.Ctx) (h0 : Heap) (t : Sem α) : ∀ (Q : α → Pos → Shared → Prop) (E : Value → Pos → Shared → Prop) (p : Pos) (s : Shared), Hm h0 s.heap → Sem.wp M Γ t Q E p s →
    Sem.wp M Γ t (fun a p' s' => Hm h0 s'.heap ∧ Q a p' s') (fun e p' s' => Hm h0 s'.heap ∧ E e p' s') p s := by
  induction t with
  | pure a => intro Q E p s hn h; exact ⟨hn, h⟩
  | raise e => intro Q E p s hn h; exact ⟨hn, h⟩
  | unsupported _ => intro Q E p s _ h; exact h
  | finish _ => intro Q E p s _ h; exact h
  | rule _ k ih => intro Q E p s hn h; exact ih () Q E p s hn h
  | «at» p' k ih => intro Q E p s hn h; exact ih () Q E p' s hn h
  | load a _ k ih => intro Q E p s hn h; obtain ⟨o, ho, h⟩ := h; exact ⟨o, ho, ih o Q E p s hn h⟩
  | update a _ f k ih => intro Q E p s hn h; exact ⟨h.1, ih () Q E p _ (hn.trans (Hm.update h.1)) h.2⟩
  | loadIfAlive a k ih => intro Q E p s hn h; exact ih _ Q E p s hn h
  | point _ k ih => intro Q E p s hn h; exact ih () Q E p s hn h
  | register _ _ => intro Q E p s _ h; exact h
  | alloc o k ih => intro Q E p s hn h; exact ih _ Q E p _ (hn.trans Hm.push) h
  | fresh k ih => intro Q E p s hn h; exact ih _ Q E p _ hn h
  | ask k ih => intro Q E p s hn h; exact ih _ Q E p s hn h
  | choose src m k ih => intro Q E p s hn h; exact ⟨h.1, ih _ Q E p _ hn h.2⟩
  | os q _ k ih => intro Q E p s hn h; exact ih _ Q E p _ hn h
  | call c hd _ _ k ih => intro Q E p s hn h; obtain ⟨r, s', hr, h⟩ := h; exact ⟨r, s', hr, ih r Q E p s' (hn.trans (Runs.hm hr)) h⟩
  | handled own k ih => intro Q E p s hn h; exact ih _ Q E p s hn h
  | genState g k ih => intro Q E p s hn h; obtain ⟨st, hs, h⟩ := h; exact ⟨st, hs, ih _ Q E p s hn h⟩
  | newGen c k ih => intro Q E p s hn h; exact ih _ Q E p _ hn h
  | resume g r _ k ih => intro Q E p s hn h; obtain ⟨res, s', hw, h⟩ := h; exact ⟨res, s', hw, ih res Q E p s' (hn.trans (Wakes.hm hw)) h⟩
  | yield _ _ _ _ => intro Q E p s _ h; exact h
  | stack k ih => intro Q E p s hn h; exact ih _ Q E p s hn h
  | fork _ _ => intro Q E p s _ h; exact h
  | thread k ih => intro Q E p s hn h; exact ih _ Q E p s hn h
  | await _ _ _ _ _ => intro Q E p s _ h; exact h
theorem wpAny_hm {α : Type} {M : Model} {A : Around} {s : Shared} {t : Sem α} {Q : α → Shared → Prop} {E : Value → Shared → Prop} (h : wpAny M A t (fun a s' => Hm s.heap s'.heap → Q a s') E s) : wpAny M A t Q E s :=
  fun Γ p hΓ => Sem.wp_mono M Γ t (fun _ _ _ q => q.2 q.1) (fun _ _ _ q => q.2) p s (wp_hm M Γ s.heap t _ _ p s Hm.refl (h Γ p hΓ))

noncomputable abbrev NotOwn (O : List PySem.Str) (ω : PySem.Str → Addr) : Addr → Prop := fun a => ∀ y ∈ O, a ≠ ω y
/-- what a frame's statements may store into -/
noncomputable def Mut (env : Env) (O : List PySem.Str) (ω : PySem.Str → Addr) (b : Addr) : Prop :=
  b = env.locals ∨ (∃ x, env.kindOf x = some .cell ∧ env.cells.lookup x = some b) ∨ ∃ y ∈ O, b = ω y

structure Stp (W : Wd) (M : Addr → Prop) (l : Lab) (s : Shared) (l' : Lab) (s' : Shared) : Prop where
  same : ∃ h tk, s' = { s with heap := h, toks := tk }
  keep : ∀ b o, b ∉ W.tabs → ¬ M b → s.heap.get? b = some o → s'.heap.get? b = some o
  hm : Hm s.heap s'.heap
  ti : W.TI s'.heap
  ll : LLe l l'
  tk : TokOk l' s'

theorem Stp.refl {W : Wd} {M : Addr → Prop} {l : Lab} {s : Shared} (ti : W.TI s.heap) (tk : TokOk l s) : Stp W M l s l s := ⟨⟨s.heap, s.toks, rfl⟩, fun _ _ _ _ e => e, Hm.refl, ti, fun _ _ e => e, tk⟩
theorem Stp.trans {W : Wd} {M M' : Addr → Prop} {l l' l'' : Lab} {s s' s'' : Shared} (x : Stp W M l s l' s') (y : Stp W M' l' s' l'' s'') (h : ∀ b, M' b → M b ∨ Fresh s b) : Stp W M l s l'' s'' := by
  obtain ⟨h1, t1, e1⟩ := x.same
  obtain ⟨h2, t2, e2⟩ := y.same
  refine ⟨⟨h2, t2, by rw [e2, e1]⟩, fun b o hb hm e => y.keep b o hb (fun q => ?_) (x.keep b o hb hm e), x.hm.trans y.hm, y.ti, fun t z q => y.ll t z (x.ll t z q), y.tk⟩
  rcases h b q with q | q
  · exact hm q
  · rw [show s.heap.get? b = none from q] at e; cases e
theorem Ext.stp {W : Wd} {M : Addr → Prop} {l l' : Lab} {s s' : Shared} (x : Ext W l s l' s') (hm : Hm s.heap s'.heap) : Stp W M l s l' s' := ⟨x.same, fun b o hb _ e => x.keep b o hb e, hm, x.ti, x.ll, x.tk⟩
theorem Stp.ext {W : Wd} {M : Addr → Prop} {l0 l l' : Lab} {s0 s s' : Shared} (e : Ext W l0 s0 l s) (x : Stp W M l s l' s') (h : ∀ b, M b → Fresh s0 b) : Ext W l0 s0 l' s' := by
  obtain ⟨h1, t1, e1⟩ := e.same
  obtain ⟨h2, t2, e2⟩ := x.same
  exact ⟨⟨⟨h2, t2, by rw [e2, e1]⟩, fun b o hb q => x.keep b o hb (fun hm => by have := h b hm; rw [show s0.heap.get? b = none from this] at q; cases q) (e.keep b o hb q), x.ti⟩, fun t z q => x.ll t z (e.ll t z q), x.tk⟩

/-- the frame of a running function: its names' values, the lists it owns -/
structure Fm (W : Wd) (env : Env) (σ : Loc) (O : List PySem.Str) (ω : PySem.Str → Addr) (g : Heap) (l0 : Lab) (s0 : Shared) (l : Lab) (s : Shared) : Prop where
  base0 : Base W g l0 s0
  ext : Ext W l0 s0 l s
  fn : EnvFn env
  lf : Fresh s0 env.locals
  ns : ∃ m, s.heap.Ns env.locals m
  cell : ∀ x, env.kindOf x = some .cell → ∃ c v, env.cells.lookup x = some c ∧ s.heap.IsCell c v ∧ Fresh s0 c
  cinj : ∀ x y c, env.cells.lookup x = some c → env.cells.lookup y = some c → x = y
  val : ∀ x pv, σ x = some pv → x ∉ O → ∃ v, Reads1 env s.heap x v ∧ VRep (NotOwn O ω) l s.heap v pv
  own : ∀ x ∈ O, ∃ xs vs, σ x = some (.list xs) ∧ Reads1 env s.heap x (.ref (ω x)) ∧ s.heap.PlainList (ω x) vs.toArray ∧ VReps (NotOwn O ω) l s.heap vs xs ∧ Fresh s0 (ω x)
  oinj : ∀ x ∈ O, ∀ y ∈ O, ω x = ω y → x = y

noncomputable def Loc.without (σ : Loc) (O : List PySem.Str) : Loc := fun x => if x ∈ O then none else σ x
noncomputable def Loc.set (σ : Loc) (x : PySem.Str) (pv : PV) : Loc := fun y => if y = x then some pv else σ y

section
variable {W : Wd} {d : Nat} {env : Env} {σ : Loc} {O : List PySem.Str} {ω : PySem.Str → Addr} {g : Heap} {l0 l l' : Lab} {s0 s s' : Shared}

theorem Fm.base (F : Fm W env σ O ω g l0 s0 l s) : Base W g l s := F.base0.ext F.ext
theorem Fm.ti (F : Fm W env σ O ω g l0 s0 l s) : W.TI s.heap := F.ext.ti
theorem Fm.tk (F : Fm W env σ O ω g l0 s0 l s) : TokOk l s := F.ext.tk

/-- all the names may be read -/
theorem Fm.envOk (F : Fm W env σ O ω g l0 s0 l s) : EnvOk env σ (fun _ => True) l s.heap where
  fn := F.fn
  names := fun x pv hx => by
    by_cases hm : x ∈ O
    · obtain ⟨xs, vs, h1, h2, h3, h4, _⟩ := F.own x hm
      rw [hx] at h1; cases h1
      exact ⟨_, h2, .list trivial h3 (h4.wid fun _ _ => trivial)⟩
    · obtain ⟨v, h1, h2⟩ := F.val x pv hx hm
      exact ⟨v, h1, h2.wid fun _ _ => trivial⟩
/-- the names but the owned lists -/
theorem Fm.envOkV (F : Fm W env σ O ω g l0 s0 l s) : EnvOk env (σ.without O) (NotOwn O ω) l s.heap where
  fn := F.fn
  names := fun x pv hx => by
    unfold Loc.without at hx
    split at hx
    · cases hx
    · rename_i hm; exact F.val x pv hx hm

theorem Fm.step (F : Fm W env σ O ω g l0 s0 l s) (e : Ext W l s l' s') : Fm W env σ O ω g l0 s0 l' s' where
  base0 := F.base0
  ext := F.ext.trans e
  fn := F.fn
  lf := F.lf
  ns := let ⟨m, h⟩ := F.ns; ⟨m, ns_ext h F.ti e.toExt0⟩
  cell := fun x hx => let ⟨c, v, h1, h2, h3⟩ := F.cell x hx; ⟨c, v, h1, cell_ext h2 F.ti e.toExt0, h3⟩
  cinj := F.cinj
  val := fun x pv hx hm => let ⟨v, h1, h2⟩ := F.val x pv hx hm; ⟨v, h1.ext F.ti e.toExt0, h2.ext F.ti e fun _ q => q⟩
  own := fun x hm => let ⟨xs, vs, h1, h2, ⟨n, h3⟩, h4, h5⟩ := F.own x hm
    ⟨xs, vs, h1, h2.ext F.ti e.toExt0, ⟨n, e.keep _ _ (seq_notab F.ti h3 ⟨_, _, rfl⟩) h3⟩, h4.ext F.ti e fun _ q => q, h5⟩
  oinj := F.oinj

/-- what may be stored into is new since the frame's start -/
theorem Fm.mutFresh (F : Fm W env σ O ω g l0 s0 l s) {b : Addr} (h : Mut env O ω b) : Fresh s0 b := by
  rcases h with rfl | ⟨x, h1, h2⟩ | ⟨y, hy, rfl⟩
  · exact F.lf
  · obtain ⟨c, v, h3, _, h4⟩ := F.cell x h1
    rw [h2] at h3; cases h3; exact h4
  · obtain ⟨_, _, _, _, _, _, h⟩ := F.own y hy; exact h
/-- a list or tuple that is not owned is not stored into -/
theorem Fm.notMut (F : Fm W env σ O ω g l0 s0 l s) {b : Addr} {o : Obj} (hV : NotOwn O ω b) (ho : s.heap.get? b = some o) (hd : (∃ its n, o.data = .seq its n) ∨ ∃ vs, o.data = .fields vs) : ¬ Mut env O ω b := by
  rintro (rfl | ⟨x, h1, h2⟩ | ⟨y, hy, rfl⟩)
  · obtain ⟨m, o', es, ep, q1, q2, _⟩ := F.ns
    rw [ho] at q1; cases q1
    rcases hd with ⟨its, n, hd⟩ | ⟨its, hd⟩ <;> (rw [hd] at q2; cases q2)
  · obtain ⟨c, v, h3, ⟨o', q1, q2⟩, _⟩ := F.cell x h1
    rw [h2] at h3; cases h3
    rw [ho] at q1; cases q1
    rcases hd with ⟨its, n, hd⟩ | ⟨its, hd⟩ <;> (rw [hd] at q2; cases q2)
  · exact hV y hy rfl

/-- the owned lists that came since s -/
noncomputable def Grow (O : List PySem.Str) (ω : PySem.Str → Addr) (O' : List PySem.Str) (ω' : PySem.Str → Addr) (s : Shared) : Prop := ∀ x ∈ O', (x ∈ O ∧ ω' x = ω x) ∨ (s.heap.objs.size : Nat) ≤ ω' x
theorem Grow.refl : Grow O ω O ω s := fun x hx => .inl ⟨hx, rfl⟩
theorem Grow.mut {O' : List PySem.Str} {ω' : PySem.Str → Addr} (h : Grow O ω O' ω' s) {b : Addr} (hb : Mut env O' ω' b) : Mut env O ω b ∨ Fresh s b := by
  rcases hb with rfl | q | ⟨y, hy, rfl⟩
  · exact .inl (.inl rfl)
  · exact .inl (.inr (.inl q))
  · rcases h y hy with ⟨q, e⟩ | q
    · exact .inl (.inr (.inr ⟨y, q, e⟩))
    · exact .inr (Heap.get?_none_of_le q)
theorem Grow.trans {O' O'' : List PySem.Str} {ω' ω'' : PySem.Str → Addr} (h : Grow O ω O' ω' s) (h' : Grow O' ω' O'' ω'' s') (hl : s.heap.objs.size ≤ s'.heap.objs.size) : Grow O ω O'' ω'' s := fun x hx => by
  rcases h' x hx with ⟨q, e⟩ | q
  · rcases h x q with ⟨q2, e2⟩ | q2
    · exact .inl ⟨q2, e.trans e2⟩
    · exact .inr (by rw [e]; exact q2)
  · exact .inr (Nat.le_trans hl q)

mutual
theorem VRep.ex {V : Addr → Prop} {h : Heap} : ∀ {v : Value} {x : PV}, VRep V l h v x → VRep (fun a => V a ∧ ∃ o, h.get? a = some o ∧ ∃ its n, o.data = .seq its n) l h v x
  | _, _, .none => .none
  | _, _, .bool b => .bool b
  | _, _, .int i t => .int i t
  | _, _, .str x t e => .str x t e
  | _, _, .list ha hp hs => .list ⟨ha, let ⟨n, e⟩ := hp; ⟨_, e, _, n, rfl⟩⟩ hp (VReps.ex hs)
  | _, _, .tup ha hp hs => .tup ⟨ha, let ⟨o, e, hc, n, hd⟩ := hp; ⟨o, e, _, n, hd⟩⟩ hp (VReps.ex hs)
theorem VReps.ex {V : Addr → Prop} {h : Heap} : ∀ {v : List Value} {x : List PV}, VReps V l h v x → VReps (fun a => V a ∧ ∃ o, h.get? a = some o ∧ ∃ its n, o.data = .seq its n) l h v x
  | _, _, .nil => .nil
  | _, _, .cons hv hs => .cons (VRep.ex hv) (VReps.ex hs)
end

/-- a value that is not owned outlives the frame's steps -/
theorem Fm.vrep {O' : List PySem.Str} {ω' : PySem.Str → Addr} (F : Fm W env σ O ω g l0 s0 l s) (x : Stp W (Mut env O ω) l s l' s') (G : Grow O ω O' ω' s) {v : Value} {pv : PV} (r : VRep (NotOwn O ω) l s.heap v pv) : VRep (NotOwn O' ω') l' s'.heap v pv := by
  refine r.ex.mono (fun a ⟨hV, o, ho, _⟩ y hy e => ?_) x.ll fun a o ⟨hV, _⟩ _ hd ho => x.keep a o (seq_notab F.ti ho hd) (F.notMut hV ho (.inl hd)) ho
  rcases G y hy with ⟨q, e2⟩ | q
  · exact hV y q (e.trans e2)
  · rw [← e] at q; rw [Heap.get?_none_of_le q] at ho; cases ho

theorem Ns.unique {h : Heap} {a : Addr} {m m' : PySem.Str → Option Value} (x : h.Ns a m) (y : h.Ns a m') : m = m' := by
  obtain ⟨o, es, ep, h1, h2, _, h3⟩ := x
  obtain ⟨o', es', ep', q1, q2, _, q3⟩ := y
  rw [h1] at q1; cases q1
  rw [h2] at q2; cases q2
  funext n; rw [← h3, ← q3]

/-- a store into one of the frame's objects -/
theorem Fm.poke (F : Fm W env σ O ω g l0 s0 l s) {b : Addr} {ob ob' : Obj} {h' : Heap} {tk : Nat} (hb : Mut env O ω b) (ho : s.heap.get? b = some ob) (hn : NotCode ob) (hs : Heap.SameBut b s.heap h') (ho' : h'.get? b = some ob') (htk : s.toks ≤ tk) :
    Stp W (Mut env O ω) l s l { s with heap := h', toks := tk } := by
  refine ⟨⟨h', tk, rfl⟩, fun c o hc hm e => hs.extBut c o (fun q => hm (q ▸ hb)) e, ⟨Nat.le_of_eq hs.1.symm, fun c hlt e => ?_⟩, W.ti_but ho hn hs.extBut F.ti, fun _ _ q => q, F.tk.up htk⟩
  by_cases hcb : c = b
  · subst hcb; rw [e] at ho; cases ho
  · exact (hs.2 c hcb).trans e
theorem Fm.pokeVal {b : Addr} {h' : Heap} (hs : Heap.SameBut b s.heap h') (hb : ∀ o, s.heap.get? b = some o → ¬ ∃ its n, o.data = .seq its n) {V : Addr → Prop} {v : Value} {pv : PV} (r : VRep V l s.heap v pv) : VRep V l h' v pv :=
  r.mono (fun _ q => q) (fun _ _ q => q) fun a o _ _ hd ho => hs.extBut a o (fun q => hb o (q ▸ ho) hd) ho
theorem Fm.pokeVals {b : Addr} {h' : Heap} (hs : Heap.SameBut b s.heap h') (hb : ∀ o, s.heap.get? b = some o → ¬ ∃ its n, o.data = .seq its n) {V : Addr → Prop} {v : List Value} {pv : List PV} (r : VReps V l s.heap v pv) : VReps V l h' v pv :=
  r.mono (fun _ q => q) (fun _ _ q => q) fun a o _ _ hd ho => hs.extBut a o (fun q => hb o (q ▸ ho) hd) ho

theorem ne_of_kind {h : Heap} {a b : Addr} {o o' : Obj} (ha : h.get? a = some o) (hb : h.get? b = some o') (hd : o.data ≠ o'.data) : a ≠ b := fun e => by
  subst e; rw [ha] at hb; cases hb; exact hd rfl

/-- a name gets a value; the frame then, the value given by X (heap after) -/
theorem Fm.storeX (F : Fm W env σ O ω g l0 s0 l s) {x : PySem.Str} {v : Value} {A : Around} {E : Value → Shared → Prop} {Q : Unit → Shared → Prop} (hk : env.kindOf x = some .local ∨ env.kindOf x = some .cell)
    (h : ∀ s' tk' h', s' = { s with heap := h', toks := tk' } → Stp W (Mut env O ω) l s l s' → Reads1 env h' x v →
      (∃ m, h'.Ns env.locals m) → (∀ y, env.kindOf y = some .cell → ∃ c v, env.cells.lookup y = some c ∧ h'.IsCell c v ∧ Fresh s0 c) →
      (∀ y u, y ≠ x → Reads1 env s.heap y u → Reads1 env h' y u) →
      (∀ V v pv, VRep V l s.heap v pv → VRep V l h' v pv) → (∀ V v pv, VReps V l s.heap v pv → VReps V l h' v pv) → (∀ a its, s.heap.PlainList a its → h'.PlainList a its) → Q () s') :
    wpAny W.M A (storeName env x v) Q E s := by
  obtain ⟨m, hm⟩ := F.ns
  obtain ⟨oL, esL, epL, hoL, hdL, _⟩ := id hm
  rcases hk with hk | hk
  · refine wpAny_storeName_local hk hm (fun h' hn' hs' => ?_) (by rw [F.fn.kind]; rfl)
    obtain ⟨oL', esL', epL', hoL', hdL', _⟩ := id hn'
    have hb : ∀ o, s.heap.get? env.locals = some o → ¬ ∃ its n, o.data = .seq its n := fun o e => by rw [hoL] at e; cases e; rintro ⟨_, _, q⟩; rw [hdL] at q; cases q
    refine h _ _ h' rfl (F.poke (.inl rfl) hoL (notCode_dict hdL) hs' hoL' (Nat.le_succ _)) (.loc hk hn' (by simp)) ⟨_, hn'⟩ (fun y hy => ?_) (fun y u hne r => ?_)
      (fun V v pv r => Fm.pokeVal hs' hb r) (fun V v pv r => Fm.pokeVals hs' hb r) fun a its ⟨n, e⟩ => ⟨n, hs'.extBut a _ (fun q => hb _ (q ▸ e) ⟨_, _, rfl⟩) e⟩
    · obtain ⟨c, v, h1, h2, h3⟩ := F.cell y hy
      obtain ⟨o, q1, q2⟩ := id h2
      exact ⟨c, v, h1, h2.sameBut hs' (ne_of_kind q1 hoL (by rw [q2, hdL]; intro q; cases q)), h3⟩
    · cases r with
      | loc h1 h2 h3 =>
        have := Ns.unique h2 hm; subst this
        exact .loc h1 hn' (by simp [hne, h3])
      | cell h1 h2 h3 =>
        obtain ⟨o, q1, q2⟩ := id h3
        exact .cell h1 h2 (h3.sameBut hs' (ne_of_kind q1 hoL (by rw [q2, hdL]; intro q; cases q)))
  · obtain ⟨c, v0, hc1, hc2, hc3⟩ := F.cell x hk
    obtain ⟨oc, hoc, hdc⟩ := id hc2
    refine wpAny_storeName_cell F.fn.kind hk hc1 hc2 fun h' hc' hs' => ?_
    obtain ⟨oc', hoc', hdc'⟩ := id hc'
    have hb : ∀ o, s.heap.get? c = some o → ¬ ∃ its n, o.data = .seq its n := fun o e => by rw [hoc] at e; cases e; rintro ⟨_, _, q⟩; rw [hdc] at q; cases q
    have hLc : env.locals ≠ c := ne_of_kind hoL hoc (by rw [hdc, hdL]; intro q; cases q)
    refine h _ s.toks h' rfl (F.poke (.inr (.inl ⟨x, hk, hc1⟩)) hoc (.inl fun vs q => by rw [hdc] at q; cases q) hs' hoc' (Nat.le_refl _)) (.cell (.inl hk) hc1 hc') ⟨m, hm.sameBut hs' hLc⟩ (fun y hy => ?_) (fun y u hne r => ?_)
      (fun V v pv r => Fm.pokeVal hs' hb r) (fun V v pv r => Fm.pokeVals hs' hb r) fun a its ⟨n, e⟩ => ⟨n, hs'.extBut a _ (fun q => hb _ (q ▸ e) ⟨_, _, rfl⟩) e⟩
    · obtain ⟨c', v', h1, h2, h3⟩ := F.cell y hy
      by_cases hcc : c' = c
      · subst hcc; exact ⟨c', _, h1, hc', h3⟩
      · exact ⟨c', v', h1, h2.sameBut hs' hcc, h3⟩
    · cases r with
      | loc h1 h2 h3 => exact .loc h1 (h2.sameBut hs' hLc) h3
      | cell h1 h2 h3 => exact .cell h1 h2 (h3.sameBut hs' fun q => hne (F.cinj y x c (q ▸ h2) hc1))

/-- a name gets a value that is not owned -/
theorem Fm.store (F : Fm W env σ O ω g l0 s0 l s) {x : PySem.Str} {v : Value} {pv : PV} {A : Around} {E : Value → Shared → Prop} {Q : Unit → Shared → Prop} (hx : x ∉ O) (hk : env.kindOf x = some .local ∨ env.kindOf x = some .cell)
    (hv : VRep (NotOwn O ω) l s.heap v pv) (h : ∀ s', Stp W (Mut env O ω) l s l s' → Fm W env (σ.set x pv) O ω g l0 s0 l s' → Q () s') : wpAny W.M A (storeName env x v) Q E s := by
  refine F.storeX hk fun s' tk' h' hs' hst hr hns hcl hrd hvr hvrs hpl => h s' hst ?_
  subst hs'
  refine ⟨F.base0, hst.ext F.ext fun b q => F.mutFresh q, F.fn, F.lf, hns, hcl, F.cinj, fun y pv' hy hm => ?_, fun y hy => ?_, F.oinj⟩
  · by_cases hyx : y = x
    · subst hyx; simp [Loc.set] at hy; subst hy; exact ⟨v, hr, hvr _ _ _ hv⟩
    · simp [Loc.set, hyx] at hy
      obtain ⟨u, h1, h2⟩ := F.val y pv' hy hm
      exact ⟨u, hrd y u hyx h1, hvr _ _ _ h2⟩
  · obtain ⟨xs, vs, h1, h2, h3, h4, h5⟩ := F.own y hy
    have hyx : y ≠ x := fun q => hx (q ▸ hy)
    exact ⟨xs, vs, by simp [Loc.set, hyx, h1], hrd y _ hyx h2, hpl _ _ h3, hvrs _ _ _ h4, h5⟩

/-- a name gets a new list of its own -/
theorem Fm.storeOwn {s₁ : Shared} {l₁ : Lab} (F : Fm W env σ O ω g l0 s0 l s) (e : Ext W l s l₁ s₁) {x : PySem.Str} {a : Addr} {vs : List Value} {xs : List PV} {A : Around} {E : Value → Shared → Prop} {Q : Unit → Shared → Prop}
    (hm : Hm s.heap s₁.heap) (hx : x ∉ O) (hk : env.kindOf x = some .local ∨ env.kindOf x = some .cell) (ha : Fresh s a) (hp : s₁.heap.PlainList a vs.toArray) (hv : VReps (fun b => Fresh s b ∧ b ≠ a) l₁ s₁.heap vs xs)
    (h : ∀ s', Stp W (Mut env O ω) l s l₁ s' → Fm W env (σ.set x (.list xs)) (x :: O) (fun y => if y = x then a else ω y) g l0 s0 l₁ s' → Grow O ω (x :: O) (fun y => if y = x then a else ω y) s → Q () s') : wpAny W.M A (storeName env x (.ref a)) Q E s₁ := by
  have F₁ := F.step e
  have hω : ∀ y ∈ O, (fun y => if y = x then a else ω y) y = ω y := fun y hy => if_neg fun (q : y = x) => hx (q ▸ hy)
  have old : ∀ {v pv}, VRep (NotOwn O ω) l s.heap v pv → VRep (NotOwn (x :: O) (fun y => if y = x then a else ω y)) l₁ s₁.heap v pv := fun r =>
    r.ex.mono (fun b ⟨hV, o, ho, _⟩ y hy q => by
      rcases List.mem_cons.mp hy with rfl | hy
      · simp at q; rw [q, show s.heap.get? a = none from ha] at ho; cases ho
      · exact hV y hy (q.trans (hω y hy))) e.ll fun b o _ _ hd ho => e.keep b o (seq_notab F.ti ho hd) ho
  have olds : ∀ {v pv}, VReps (NotOwn O ω) l s.heap v pv → VReps (NotOwn (x :: O) (fun y => if y = x then a else ω y)) l₁ s₁.heap v pv := fun r =>
    r.ex.mono (fun b ⟨hV, o, ho, _⟩ y hy q => by
      rcases List.mem_cons.mp hy with rfl | hy
      · simp at q; rw [q, show s.heap.get? a = none from ha] at ho; cases ho
      · exact hV y hy (q.trans (hω y hy))) e.ll fun b o _ _ hd ho => e.keep b o (seq_notab F.ti ho hd) ho
  have ownNe : ∀ y ∈ O, ω y ≠ a := fun y hy q => by
    obtain ⟨_, _, _, _, ⟨n, h3⟩, _⟩ := F.own y hy
    rw [q, show s.heap.get? a = none from ha] at h3; cases h3
  refine F₁.storeX hk fun s' tk' h' hs' hst hr hns hcl hrd hvr hvrs hpl => h s' ((e.stp hm).trans hst fun b q => .inl q) ?_ fun y hy => ?_
  · subst hs'
    refine ⟨F.base0, hst.ext F₁.ext fun b q => F₁.mutFresh q, F.fn, F.lf, hns, hcl, F.cinj, fun y pv' hy hm => ?_, fun y hy => ?_, ?_⟩
    · have hyx : y ≠ x := fun q => hm (q ▸ .head _)
      have hyO : y ∉ O := fun q => hm (.tail _ q)
      simp [Loc.set, hyx] at hy
      obtain ⟨u, h1, h2⟩ := F.val y pv' hy hyO
      exact ⟨u, hrd y u hyx (h1.ext F.ti e.toExt0), hvr _ _ _ (old h2)⟩
    · by_cases hyx : y = x
      · subst hyx
        refine ⟨xs, vs, by simp [Loc.set], by simpa using hr, by simpa using hpl _ _ hp, hvrs _ _ _ (hv.wid fun b hb z hz q => ?_), by simpa using fresh_of_ext F.ext.toExt0 a ha⟩
        rcases List.mem_cons.mp hz with rfl | hz
        · simp at q; exact hb.2 q
        · replace q := q.trans (hω z hz)
          obtain ⟨_, _, _, _, ⟨n, h3⟩, _⟩ := F.own z hz
          rw [← q, show s.heap.get? b = none from hb.1] at h3; cases h3
      · rcases List.mem_cons.mp hy with q | hy
        · exact absurd q hyx
        · obtain ⟨ys, us, h1, h2, h3, h4, h5⟩ := F.own y hy
          obtain ⟨n, h3'⟩ := h3
          exact ⟨ys, us, by simp [Loc.set, hyx, h1], by simp only [if_neg hyx]; exact hrd y _ hyx (h2.ext F.ti e.toExt0), by simp only [if_neg hyx]; exact hpl _ _ ⟨n, e.keep _ _ (seq_notab F.ti h3' ⟨_, _, rfl⟩) h3'⟩, hvrs _ _ _ (olds h4), by simp only [if_neg hyx]; exact h5⟩
    · intro y hy z hz q
      by_cases hyx : y = x <;> by_cases hzx : z = x
      · rw [hyx, hzx]
      · rcases List.mem_cons.mp hz with q' | hz
        · exact absurd q' hzx
        · simp [hyx, hzx] at q; exact absurd q.symm (ownNe z hz)
      · rcases List.mem_cons.mp hy with q' | hy
        · exact absurd q' hyx
        · simp [hyx, hzx] at q; exact absurd q (ownNe y hy)
      · rcases List.mem_cons.mp hy with q' | hy
        · exact absurd q' hyx
        · rcases List.mem_cons.mp hz with q' | hz
          · exact absurd q' hzx
          · simp [hyx, hzx] at q; exact F.oinj y hy z hz q
  · by_cases hyx : y = x
    · subst hyx; right
      simp only [if_true]
      rcases Nat.lt_or_ge a s.heap.objs.size with q | q
      · obtain ⟨n, hp⟩ := hp
        rw [hm.dead a q ha] at hp; cases hp
      · exact q
    · rcases List.mem_cons.mp hy with q | hy
      · exact absurd q hyx
      · left; exact ⟨hy, hω y hy⟩

/-- an owned list gets other items -/
theorem Fm.update (F : Fm W env σ O ω g l0 s0 l s) {x : PySem.Str} {h' : Heap} {tk : Nat} {vs : List Value} {xs : List PV} (hx : x ∈ O) (hs : Heap.SameBut (ω x) s.heap h') (hp : h'.PlainList (ω x) vs.toArray)
    (hv : VReps (NotOwn O ω) l s.heap vs xs) (htk : s.toks ≤ tk) :
    Stp W (Mut env O ω) l s l { s with heap := h', toks := tk } ∧ Fm W env (σ.set x (.list xs)) O ω g l0 s0 l { s with heap := h', toks := tk } := by
  obtain ⟨xs0, vs0, hσ, hr, ⟨n, ho⟩, _, hf⟩ := F.own x hx
  have hp' := hp
  obtain ⟨n', hp'⟩ := hp'
  have hst := F.poke (tk := tk) (.inr (.inr ⟨x, hx, rfl⟩)) ho (notCode_seq rfl) hs hp' htk
  have vr : ∀ {v pv}, VRep (NotOwn O ω) l s.heap v pv → VRep (NotOwn O ω) l h' v pv := fun r => r.ex.mono (fun b q => q.1) (fun _ _ q => q) fun b o q _ _ e => hs.extBut b o (q.1 x hx) e
  have vrs : ∀ {v pv}, VReps (NotOwn O ω) l s.heap v pv → VReps (NotOwn O ω) l h' v pv := fun r => r.ex.mono (fun b q => q.1) (fun _ _ q => q) fun b o q _ _ e => hs.extBut b o (q.1 x hx) e
  have rd : ∀ y u, Reads1 env s.heap y u → Reads1 env h' y u := fun y u r => by
    cases r with
    | loc h1 h2 h3 => obtain ⟨o, es, ep, q1, q2, _⟩ := id h2; exact .loc h1 (h2.sameBut hs (ne_of_kind q1 ho (by rw [q2]; intro q; cases q))) h3
    | cell h1 h2 h3 => obtain ⟨o, q1, q2⟩ := id h3; exact .cell h1 h2 (h3.sameBut hs (ne_of_kind q1 ho (by rw [q2]; intro q; cases q)))
  refine ⟨hst, F.base0, hst.ext F.ext fun b q => F.mutFresh q, F.fn, F.lf, ?_, fun y hy => ?_, F.cinj, fun y pv hy hm => ?_, fun y hy => ?_, F.oinj⟩
  · obtain ⟨m, hm⟩ := F.ns
    obtain ⟨o, es, ep, q1, q2, _⟩ := id hm
    exact ⟨m, hm.sameBut hs (ne_of_kind q1 ho (by rw [q2]; intro q; cases q))⟩
  · obtain ⟨c, v, h1, h2, h3⟩ := F.cell y hy
    obtain ⟨o, q1, q2⟩ := id h2
    exact ⟨c, v, h1, h2.sameBut hs (ne_of_kind q1 ho (by rw [q2]; intro q; cases q)), h3⟩
  · have hyx : y ≠ x := fun q => hm (q ▸ hx)
    simp [Loc.set, hyx] at hy
    obtain ⟨u, h1, h2⟩ := F.val y pv hy hm
    exact ⟨u, rd y u h1, vr h2⟩
  · obtain ⟨ys, us, h1, h2, h3, h4, h5⟩ := F.own y hy
    by_cases hyx : y = x
    · subst hyx; exact ⟨xs, vs, by simp [Loc.set], rd _ _ h2, hp, vrs hv, h5⟩
    · obtain ⟨n', h3⟩ := h3
      exact ⟨ys, us, by simp [Loc.set, hyx, h1], rd _ _ h2, ⟨n', hs.extBut _ _ (fun q => hyx (F.oinj y hy x hx q)) h3⟩, vrs h4, h5⟩
end
end Mine

namespace Mine
local macro_rules | `(tactic| omega) => `(tactic| lia)

/-! contexts: names and their values -/
noncomputable abbrev Ctx := List (PySem.Str × PV)
noncomputable def Ctx.loc (Γ : Ctx) : Loc := fun x => Γ.lookup x
noncomputable def Ctx.put (x : PySem.Str) (v : PV) : Ctx → Ctx
  | [] => [(x, v)]
  | (y, u) :: Γ => bif x == y then (x, v) :: Γ else (y, u) :: Ctx.put x v Γ
noncomputable def Upd (x : PySem.Str) (v : PV) (Γ Γ' : Ctx) : Prop := Γ' = Γ.put x v
theorem put_lookup {x : PySem.Str} {v : PV} {z : PySem.Str} : ∀ Γ : Ctx, (Γ.put x v).lookup z = if z = x then some v else Γ.lookup z
  | [] => by
    rw [Ctx.put, List.lookup_cons]
    by_cases h : z = x
    · rw [if_pos h, h, beq_self_eq_true]
    · rw [if_neg h, beq_eq_false_iff_ne.mpr h]
  | (y, u) :: Γ => by
    rw [Ctx.put]
    cases hxy : x == y with
    | true =>
      have e := eq_of_beq hxy; subst e
      rw [cond_true, List.lookup_cons, List.lookup_cons]
      by_cases h : z = x
      · rw [if_pos h, h, beq_self_eq_true]
      · rw [if_neg h, beq_eq_false_iff_ne.mpr h]
    | false =>
      rw [cond_false, List.lookup_cons, List.lookup_cons, put_lookup Γ]
      by_cases h : z = x
      · subst h; rw [hxy]
      · rw [if_neg h, if_neg h]
theorem Upd.loc {x : PySem.Str} {v : PV} {Γ Γ' : Ctx} (h : Upd x v Γ Γ') : Γ'.loc = Γ.loc.set x v := by
  subst h; funext z; exact put_lookup Γ
noncomputable def Ctx.Le (Γ Γ' : Ctx) : Prop := ∀ x pv, Γ.lookup x = some pv → Γ'.lookup x = some pv
theorem Ctx.Le.refl {Γ : Ctx} : Γ.Le Γ := fun _ _ e => e
theorem Ctx.Le.nil {Γ : Ctx} : Ctx.Le [] Γ := fun _ _ e => nomatch e
theorem Ctx.Le.cons {x : PySem.Str} {v : PV} {Γ Γ' : Ctx} (h : Γ'.lookup x = some v) (t : Γ.Le Γ') : Ctx.Le ((x, v) :: Γ) Γ' := fun z pv e => by
  rw [List.lookup_cons] at e
  by_cases hz : z = x
  · subst hz; simp at e; subst e; exact h
  · have : (z == x) = false := by simpa using hz
    rw [this] at e; exact t z pv e

section
variable {W : Wd} {d : Nat} {env : Env} {Γ : Ctx} {O : List PySem.Str}

theorem Fm.weaken {σ σ' : Loc} {ω : PySem.Str → Addr} {g : Heap} {l0 l : Lab} {s0 s : Shared} (F : Fm W env σ O ω g l0 s0 l s) (h : ∀ x pv, σ' x = some pv → σ x = some pv) (ho : ∀ x ∈ O, σ' x = σ x) : Fm W env σ' O ω g l0 s0 l s where
  base0 := F.base0
  ext := F.ext
  fn := F.fn
  lf := F.lf
  ns := F.ns
  cell := F.cell
  cinj := F.cinj
  val := fun x pv hx hm => F.val x pv (h x pv hx) hm
  own := fun x hm => by
    obtain ⟨xs, vs, h1, r⟩ := F.own x hm
    exact ⟨xs, vs, (ho x hm).trans h1, r⟩
  oinj := F.oinj

noncomputable def FEv (W : Wd) (d : Nat) (env : Env) (Γ : Ctx) (O : List PySem.Str) (t : Sem Value) (pv : PV) : Prop :=
  ∀ (ω : PySem.Str → Addr) (g : Heap) (l0 : Lab) (s0 : Shared) (l : Lab) (A : Around) (s : Shared) (E : Value → Shared → Prop), Rm d A → Fm W env Γ.loc O ω g l0 s0 l s →
    wpAny W.M A t (fun v s' => ∃ l', Ext W l s l' s' ∧ VRep (NotOwn O ω) l' s'.heap v pv) E s

theorem Fm.freshNot {σ : Loc} {ω : PySem.Str → Addr} {g : Heap} {l0 l : Lab} {s0 s : Shared} (F : Fm W env σ O ω g l0 s0 l s) {a : Addr} (ha : Fresh s a) : NotOwn O ω a := fun y hy q => by
  obtain ⟨_, _, _, _, ⟨n, h3⟩, _⟩ := F.own y hy
  rw [← q, show s.heap.get? a = none from ha] at h3; cases h3

theorem FEv.N {t : Sem Value} {pv : PV} (h : EvTN W d env Γ.loc t pv) : FEv W d env Γ O t pv := fun ω g l0 s0 l A s E hR F =>
  wpAny_mono (h g l _ A s E hR F.base F.envOk) (fun v s' ⟨l', e, r⟩ => ⟨l', e, r.wid fun a ha => F.freshNot ha⟩) fun _ _ q => q
theorem FEv.V {t : Sem Value} {pv : PV} (h : EvT W d env (Γ.loc.without O) t pv) : FEv W d env Γ O t pv := fun ω g l0 s0 l A s E hR F =>
  wpAny_mono (h g l _ A s E hR F.base F.envOkV) (fun v s' ⟨l', e, r⟩ => ⟨l', e, r.wid fun a ha => ha.elim id fun q => F.freshNot q⟩) fun _ _ q => q

/-- a new list, to be owned -/
noncomputable def FOwn (W : Wd) (d : Nat) (env : Env) (Γ : Ctx) (O : List PySem.Str) (t : Sem Value) (xs : List PV) : Prop :=
  ∀ (ω : PySem.Str → Addr) (g : Heap) (l0 : Lab) (s0 : Shared) (l : Lab) (A : Around) (s : Shared) (E : Value → Shared → Prop), Rm d A → Fm W env Γ.loc O ω g l0 s0 l s →
    wpAny W.M A t (fun v s' => ∃ l' a vs, v = .ref a ∧ Ext W l s l' s' ∧ Fresh s a ∧ s'.heap.PlainList a vs.toArray ∧ VReps (fun b => Fresh s b ∧ b ≠ a) l' s'.heap vs xs) E s
theorem FOwn.N {t : Sem Value} {xs : List PV} (h : EvTN W d env Γ.loc t (.list xs)) (hi : ∀ x ∈ xs, x.imm = true) : FOwn W d env Γ O t xs := fun ω g l0 s0 l A s E hR F =>
  wpAny_mono (h g l _ A s E hR F.base F.envOk) (fun v s' ⟨l', e, r⟩ => by
    cases r with
    | list ha hp hs => exact ⟨l', _, _, rfl, e, ha, hp, hs.of_imm hi⟩) fun _ _ q => q
theorem FOwn.disp {es : List Expr} {pos : Pos} {xs : List PV} (h : EvLN W d env Γ.loc es xs) (hl : xs.length ≤ sizeLine) : FOwn W d env Γ O (eval (.List es pos) env) xs := fun ω g l0 s0 l A s E hR F => by
  refine wpAny_List (wpAny_mono (h pos g l _ A s E hR F.base F.envOk) (fun vs s₁ q₁ => ?_) fun _ _ x => x)
  obtain ⟨l₁, q₁⟩ := q₁
  refine ⟨by rw [q₁.2.length]; exact hl, ?_⟩
  have hB₁ := F.base.ext q₁.1
  refine ⟨_, _, vs, rfl, q₁.1.trans (Ext.push hB₁.ti hB₁.tok), fresh_of_ext q₁.1.toExt0 _ fresh_size, ⟨_, Heap.get?_push_size _ rfl⟩, ?_⟩
  exact q₁.2.ex.mono (fun a ⟨h1, o, ho, _⟩ => ⟨h1, Nat.ne_of_lt (Heap.lt_size ho)⟩) (fun _ _ q => q) fun a o _ _ _ e => Heap.get?_push_of_some _ e

noncomputable def ExPost (W : Wd) (env : Env) (O : List PySem.Str) (ω : PySem.Str → Addr) (g : Heap) (l0 : Lab) (s0 : Shared) (l : Lab) (s : Shared) (N : Ctx → List PySem.Str → Prop) (R : PV → Prop) (f : Flow) (s' : Shared) : Prop :=
  ∃ l', Stp W (Mut env O ω) l s l' s' ∧ match f with
    | .next => ∃ Γ' O' ω', N Γ' O' ∧ Fm W env Γ'.loc O' ω' g l0 s0 l' s' ∧ Grow O ω O' ω' s
    | .ret v => ∃ pv, R pv ∧ VRep (Fresh s0) l' s'.heap v pv
    | _ => False

/-- a tree of statements: N where it goes on, R what it returns -/
noncomputable def ExT (W : Wd) (d : Nat) (env : Env) (Γ : Ctx) (O : List PySem.Str) (t : Sem Flow) (N : Ctx → List PySem.Str → Prop) (R : PV → Prop) : Prop :=
  ∀ (ω : PySem.Str → Addr) (g : Heap) (l0 : Lab) (s0 : Shared) (l : Lab) (A : Around) (s : Shared) (E : Value → Shared → Prop), Rm d A → Fm W env Γ.loc O ω g l0 s0 l s →
    wpAny W.M A t (ExPost W env O ω g l0 s0 l s N R) E s
noncomputable abbrev Ex (W : Wd) (d : Nat) (env : Env) (Γ : Ctx) (O : List PySem.Str) (sts : List Stmt) (N : Ctx → List PySem.Str → Prop) (R : PV → Prop) : Prop := ExT W d env Γ O (execs sts env) N R

theorem ExT.mono {t : Sem Flow} {N N' : Ctx → List PySem.Str → Prop} {R R' : PV → Prop} (h : ExT W d env Γ O t N R) (hN : ∀ a b, N a b → N' a b) (hR : ∀ a, R a → R' a) : ExT W d env Γ O t N' R' := fun ω g l0 s0 l A s E hRm F =>
  wpAny_mono (h ω g l0 s0 l A s E hRm F) (fun f s' ⟨l', e, q⟩ => ⟨l', e, by
    cases f with
    | next => obtain ⟨Γ', O', ω', q1, q2⟩ := q; exact ⟨Γ', O', ω', hN _ _ q1, q2⟩
    | ret v => obtain ⟨pv, q1, q2⟩ := q; exact ⟨pv, hR _ q1, q2⟩
    | brk => exact q
    | cont => exact q⟩) fun _ _ q => q

theorem ExPost.thread {ω ω₁ : PySem.Str → Addr} {g : Heap} {l0 l l₁ : Lab} {s0 s s₁ : Shared} {O₁ : List PySem.Str} {N : Ctx → List PySem.Str → Prop} {R : PV → Prop} {f : Flow} {s' : Shared}
    (st : Stp W (Mut env O ω) l s l₁ s₁) (G : Grow O ω O₁ ω₁ s) (h : ExPost W env O₁ ω₁ g l0 s0 l₁ s₁ N R f s') : ExPost W env O ω g l0 s0 l s N R f s' := by
  obtain ⟨l', e, q⟩ := h
  refine ⟨l', st.trans e fun b hb => G.mut hb, ?_⟩
  cases f with
  | next => obtain ⟨Γ', O', ω', q1, q2, q3⟩ := q; exact ⟨Γ', O', ω', q1, q2, G.trans q3 st.hm.size⟩
  | ret v => exact q
  | brk => exact q
  | cont => exact q

theorem Ex.nil {N : Ctx → List PySem.Str → Prop} {R : PV → Prop} (h : N Γ O) : Ex W d env Γ O [] N R := fun ω g l0 s0 l A s E hR F =>
  wpAny_execs_nil ⟨l, Stp.refl F.ti F.tk, Γ, O, ω, h, F, Grow.refl⟩

theorem Ex.cons {st : Stmt} {rest : List Stmt} {N₁ N : Ctx → List PySem.Str → Prop} {R : PV → Prop} (h : ExT W d env Γ O (exec st env) N₁ R) (hr : ∀ Γ' O', N₁ Γ' O' → Ex W d env Γ' O' rest N R) : Ex W d env Γ O (st :: rest) N R := fun ω g l0 s0 l A s E hR F => by
  refine wpAny_execs_cons (wpAny_mono (h ω g l0 s0 l A s E hR F) (fun f s₁ q => ?_) fun _ _ q => q)
  cases f with
  | next =>
    obtain ⟨l₁, e, Γ', O', ω', hN, F', G⟩ := q
    exact wpAny_mono (hr Γ' O' hN ω' g l0 s0 l₁ A s₁ E hR F') (fun f s' q' => q'.thread e G) fun _ _ q => q
  | ret v => exact q
  | brk => exact q
  | cont => exact q

/-- fewer names -/
theorem Ex.weak {t : Sem Flow} {Γ' : Ctx} {N : Ctx → List PySem.Str → Prop} {R : PV → Prop} (h : ExT W d env Γ' O t N R) (hle : Γ'.Le Γ) (ho : ∀ x ∈ O, Γ'.loc x = Γ.loc x) : ExT W d env Γ O t N R := fun ω g l0 s0 l A s E hR F =>
  h ω g l0 s0 l A s E hR (F.weaken hle ho)

theorem Ex.assign {x : PySem.Str} {p pos : Pos} {e : Expr} {rest : List Stmt} {pv : PV} {Γ' : Ctx} {N : Ctx → List PySem.Str → Prop} {R : PV → Prop} (he : FEv W d env Γ O (eval e env) pv) (hx : x ∉ O) (hk : env.kindOf x = some .local ∨ env.kindOf x = some .cell)
    (hu : Upd x pv Γ Γ') (hr : Ex W d env Γ' O rest N R) (hs : swapsWith e (some (.Name x p)) pos.line env = pure false := by rfl) : Ex W d env Γ O (.Assign [.Name x p] e pos :: rest) N R := fun ω g l0 s0 l A s E hR F => by
  refine wpAny_execs_cons (wpAny_Assign_Name (wpAny_hm (wpAny_mono (he ω g l0 s0 l A s E hR F) (fun v s₁ q₁ hm => ?_) fun _ _ q => q)) hs)
  obtain ⟨l₁, e₁, r₁⟩ := q₁
  refine (F.step e₁).store hx hk r₁ fun s₂ st F₂ => ?_
  rw [← hu.loc] at F₂
  exact wpAny_mono (hr ω g l0 s0 l₁ A s₂ E hR F₂) (fun f s' q' => q'.thread ((e₁.stp hm).trans st fun _ q => .inl q) Grow.refl) fun _ _ q => q

theorem Ex.assignOwn {x : PySem.Str} {p pos : Pos} {e : Expr} {rest : List Stmt} {xs : List PV} {Γ' : Ctx} {N : Ctx → List PySem.Str → Prop} {R : PV → Prop} (he : FOwn W d env Γ O (eval e env) xs) (hx : x ∉ O) (hk : env.kindOf x = some .local ∨ env.kindOf x = some .cell)
    (hu : Upd x (.list xs) Γ Γ') (hr : Ex W d env Γ' (x :: O) rest N R) (hs : swapsWith e (some (.Name x p)) pos.line env = pure false := by rfl) : Ex W d env Γ O (.Assign [.Name x p] e pos :: rest) N R := fun ω g l0 s0 l A s E hR F => by
  refine wpAny_execs_cons (wpAny_Assign_Name (wpAny_hm (wpAny_mono (he ω g l0 s0 l A s E hR F) (fun v s₁ q₁ hm => ?_) fun _ _ q => q)) hs)
  obtain ⟨l₁, a, vs, rfl, e₁, ha, hp, hv⟩ := q₁
  refine F.storeOwn e₁ hm hx hk ha hp hv fun s₂ st F₂ G => ?_
  rw [← hu.loc] at F₂
  exact wpAny_mono (hr _ g l0 s0 l₁ A s₂ E hR F₂) (fun f s' q' => q'.thread st G) fun _ _ q => q

theorem Reads1.load {x : PySem.Str} {v : Value} {A : Around} {s : Shared} {E : Value → Shared → Prop} {Q : Value → Shared → Prop} (hf : EnvFn env) (r : Reads1 env s.heap x v) (h : Q v s) (hc : (x == ("__classdict__" : PySem.Str)) = false := by rfl) : wpAny W.M A (loadName env x) Q E s := by
  cases r with
  | loc h1 h2 h3 => exact wpAny_loadName_local hf.kind h1 h2 h3 h
  | cell h1 h2 h3 =>
    rcases h1 with h1 | h1
    · exact wpAny_loadName_cell hf.kind h1 h2 h3 h
    · exact wpAny_loadName_free hf.kind h1 h2 h3 h hc

theorem Ex.aug {x : PySem.Str} {p pos : Pos} {op : Operator} {e : Expr} {rest : List Stmt} {a b c : PV} {Γ' : Ctx} {N : Ctx → List PySem.Str → Prop} {R : PV → Prop} (hxa : Γ.lookup x = some a) (he : EvTN W d env Γ.loc (eval e env) b) (ho : Op2 W d (inplaceOp op) a b c) (hx : x ∉ O)
    (hk : env.kindOf x = some .local ∨ env.kindOf x = some .cell) (hu : Upd x c Γ Γ') (hr : Ex W d env Γ' O rest N R) (hc : (x == ("__classdict__" : PySem.Str)) = false := by rfl) : Ex W d env Γ O (.AugAssign (.Name x p) op e pos :: rest) N R := fun ω g l0 s0 l A s E hR F => by
  obtain ⟨va, hra, hva⟩ := F.val x a hxa hx
  refine wpAny_execs_cons (wpAny_AugAssign_Name (hra.load F.fn (wpAny_hm (wpAny_mono (he g l _ A s E hR F.base F.envOk) (fun v s₁ q₁ hm => ?_) fun _ _ q => q)) hc))
  obtain ⟨l₁, e₁, r₁⟩ := q₁
  refine wpAny_hm (wpAny_mono (ho g l₁ (fun a => NotOwn O ω a ∨ Fresh s a) A s₁ E va v hR (F.base.ext e₁) (hva.ext F.ti e₁ fun _ q => .inl q) (r₁.wid fun _ q => .inr q)) (fun w s₂ q₂ hm₂ => ?_) fun _ _ q => q)
  obtain ⟨l₂, e₂, r₂⟩ := q₂
  have e12 := e₁.trans e₂
  refine (F.step e12).store hx hk (r₂.wid fun a ha => F.freshNot (fresh_of_ext e₁.toExt0 a ha)) fun s₃ st F₃ => ?_
  rw [← hu.loc] at F₃
  exact wpAny_mono (hr ω g l0 s0 l₂ A s₃ E hR F₃) (fun f s' q' => q'.thread ((e12.stp (hm.trans hm₂)).trans st fun _ q => .inl q) Grow.refl) fun _ _ q => q

theorem Ex.ret {e : Expr} {pos : Pos} {rest : List Stmt} {pv : PV} {N : Ctx → List PySem.Str → Prop} {R : PV → Prop} (he : EvTN W d env Γ.loc (eval e env) pv) (hR : R pv) : Ex W d env Γ O (.Return (some e) pos :: rest) N R := fun ω g l0 s0 l A s E hRm F => by
  refine wpAny_execs_cons (wpAny_Return_some (wpAny_hm (wpAny_mono (he g l _ A s E hRm F.base F.envOk) (fun v s₁ q₁ hm => ?_) fun _ _ q => q)))
  obtain ⟨l₁, e₁, r₁⟩ := q₁
  exact ⟨l₁, e₁.stp hm, pv, hR, r₁.wid fun a ha => fresh_of_ext F.ext.toExt0 a ha⟩

/-- an owned list of plain values is returned -/
theorem Ex.retOwn {x : PySem.Str} {p pos : Pos} {rest : List Stmt} {xs : List PV} {N : Ctx → List PySem.Str → Prop} {R : PV → Prop} (hx : x ∈ O) (hxs : Γ.lookup x = some (.list xs)) (hi : ∀ y ∈ xs, y.imm = true) (hR : R (.list xs)) (hd : (x == ("__debug__" : PySem.Str)) = false := by rfl) (hc : (x == ("__classdict__" : PySem.Str)) = false := by rfl) : Ex W d env Γ O (.Return (some (.Name x p)) pos :: rest) N R := fun ω g l0 s0 l A s E hRm F => by
  obtain ⟨ys, vs, h1, h2, h3, h4, h5⟩ := F.own x hx
  rw [show Γ.loc x = some (.list xs) from hxs] at h1; cases h1
  exact wpAny_execs_cons (wpAny_Return_some (wpAny_Name (h2.load F.fn ⟨l, Stp.refl F.ti F.tk, _, hR, .list h5 h3 (h4.of_imm hi)⟩ hc) hd))

theorem Ex.iff {test : Expr} {body orelse rest : List Stmt} {pos : Pos} {b : Bool} {N₁ N : Ctx → List PySem.Str → Prop} {R : PV → Prop} (ht : EvB W d env Γ.loc test b) (h1 : b = true → Ex W d env Γ O body N₁ R) (h2 : b = false → Ex W d env Γ O orelse N₁ R)
    (hr : ∀ Γ' O', N₁ Γ' O' → Ex W d env Γ' O' rest N R) : Ex W d env Γ O (.If test body orelse pos :: rest) N R := by
  refine Ex.cons (N₁ := N₁) (fun ω g l0 s0 l A s E hRm F => ?_) hr
  refine wpAny_If (wpAny_hm (wpAny_mono (ht g l _ A s E hRm F.base F.envOk) (fun c s₁ q₁ hm => ?_) fun _ _ q => q))
  obtain ⟨l₁, e₁, rfl⟩ := q₁
  cases c with
  | true => exact wpAny_mono (h1 rfl ω g l0 s0 l₁ A s₁ E hRm (F.step e₁)) (fun f s' q' => q'.thread (e₁.stp hm) Grow.refl) fun _ _ q => q
  | false => exact wpAny_mono (h2 rfl ω g l0 s0 l₁ A s₁ E hRm (F.step e₁)) (fun f s' q' => q'.thread (e₁.stp hm) Grow.refl) fun _ _ q => q
/-- a branch that returns -/
theorem Ex.ifRet {test : Expr} {body rest : List Stmt} {pos : Pos} {b : Bool} {N : Ctx → List PySem.Str → Prop} {R : PV → Prop} (ht : EvB W d env Γ.loc test b) (h1 : b = true → Ex W d env Γ O body (fun _ _ => False) R)
    (hr : b = false → Ex W d env Γ O rest N R) : Ex W d env Γ O (.If test body [] pos :: rest) N R :=
  Ex.iff (N₁ := fun Γ' O' => b = false ∧ Γ' = Γ ∧ O' = O) ht (fun hb => (h1 hb).mono (fun _ _ q => q.elim) fun _ q => q) (fun hb => Ex.nil ⟨hb, rfl, rfl⟩) fun Γ' O' q => by obtain ⟨q1, rfl, rfl⟩ := q; exact hr q1

/-- while: Inv n before a turn, n sinks -/
theorem Ex.while {test : Expr} {body rest : List Stmt} {pos : Pos} {N : Ctx → List PySem.Str → Prop} {R : PV → Prop} (Inv : Nat → Ctx → List PySem.Str → Prop) (n : Nat) (h0 : Inv n Γ O)
    (turn : ∀ n Γ' O', Inv n Γ' O' → ∃ b, EvB W d env Γ'.loc test b ∧ (b = true → Ex W d env Γ' O' body (fun Γ'' O'' => ∃ m, m < n ∧ Inv m Γ'' O'') R) ∧ (b = false → Ex W d env Γ' O' rest N R)) :
    Ex W d env Γ O (.While test body [] pos :: rest) N R := by
  refine Ex.cons (N₁ := fun Γ' O' => Ex W d env Γ' O' rest N R) (fun ω g l0 s0 l A s E hRm F => ?_) fun _ _ q => q
  refine wpAny_While (codeAny_whileLoop (fun n s₁ => ∃ l₁ Γ' O' ω', Stp W (Mut env O ω) l s l₁ s₁ ∧ Inv n Γ' O' ∧ Fm W env Γ'.loc O' ω' g l0 s0 l₁ s₁ ∧ Grow O ω O' ω' s) (fun n s₁ hI => ?_) n
    ⟨l, Γ, O, ω, Stp.refl F.ti F.tk, h0, F, Grow.refl⟩)
  obtain ⟨l₁, Γ', O', ω', st, hi, F₁, G⟩ := hI
  obtain ⟨b, ht, h1, h2⟩ := turn n Γ' O' hi
  refine wpAny_hm (wpAny_mono (ht g l₁ _ A s₁ _ hRm F₁.base F₁.envOk) (fun c s₂ q₂ hm => ?_) fun _ _ q => q)
  obtain ⟨l₂, e₂, rfl⟩ := q₂
  cases c with
  | true =>
    refine wpAny_mono (h1 rfl ω' g l0 s0 l₂ A s₂ _ hRm (F₁.step e₂)) (fun f s' q' => ?_) fun _ _ q => q
    have q'' := ((q'.thread (e₂.stp hm) Grow.refl).thread st G)
    cases f with
    | next =>
      obtain ⟨l', st', Γ'', O'', ω'', ⟨m, hm, hI'⟩, F', G'⟩ := q''
      exact ⟨m, hm, l', Γ'', O'', ω'', st', hI', F', G'⟩
    | ret v => exact q''
    | brk => exact absurd q''.choose_spec.2 id
    | cont => exact absurd q''.choose_spec.2 id
  | false =>
    exact wpAny_execs_nil ⟨l₂, st.trans (e₂.stp hm) fun _ q => G.mut q, Γ', O', ω', h2 rfl, F₁.step e₂, G⟩
end
end Mine

namespace Mine
local macro_rules | `(tactic| omega) => `(tactic| lia)

section
variable {W : Wd} {d : Nat} {env : Env} {σ : Loc} {Γ : Ctx} {O : List PySem.Str} {ω : PySem.Str → Addr} {g : Heap} {l0 l l' : Lab} {s0 s s' : Shared}

/-- a frame outlives changes of iterators -/
theorem Fm.stepK (F : Fm W env σ O ω g l0 s0 l s) (e0 : Ext W l0 s0 l' s') (k : ∀ b o, b ∉ W.tabs → (∀ vs, o.data ≠ .fields vs) → s.heap.get? b = some o → s'.heap.get? b = some o) (ll : LLe l l') : Fm W env σ O ω g l0 s0 l' s' where
  base0 := F.base0
  ext := e0
  fn := F.fn
  lf := F.lf
  ns := by
    obtain ⟨m, hm⟩ := F.ns
    have nt := dict_notab F.ti hm
    obtain ⟨o, es, ep, ho, hd, r⟩ := hm
    exact ⟨m, o, es, ep, k _ o nt (fun vs q => by rw [hd] at q; cases q) ho, hd, r⟩
  cell := fun x hx => by
    obtain ⟨c, v, h1, h2, h3⟩ := F.cell x hx
    have nt := cell_notab F.ti h2
    obtain ⟨o, ho, hd⟩ := h2
    exact ⟨c, v, h1, ⟨o, k _ o nt (fun vs q => by rw [hd] at q; cases q) ho, hd⟩, h3⟩
  cinj := F.cinj
  val := fun x pv hx hm => by
    obtain ⟨v, h1, h2⟩ := F.val x pv hx hm
    refine ⟨v, ?_, h2.mono (fun _ q => q) ll fun a o _ _ hd ho => k a o (seq_notab F.ti ho hd) (fun vs q => by obtain ⟨_, _, hd⟩ := hd; rw [hd] at q; cases q) ho⟩
    cases h1 with
    | loc q1 q2 q3 =>
      have nt := dict_notab F.ti q2
      obtain ⟨o, es, ep, ho, hd, r⟩ := q2
      exact .loc q1 ⟨o, es, ep, k _ o nt (fun vs q => by rw [hd] at q; cases q) ho, hd, r⟩ q3
    | cell q1 q2 q3 =>
      have nt := cell_notab F.ti q3
      obtain ⟨o, ho, hd⟩ := q3
      exact .cell q1 q2 ⟨o, k _ o nt (fun vs q => by rw [hd] at q; cases q) ho, hd⟩
  own := fun x hm => by
    obtain ⟨xs, vs, h1, h2, ⟨n, h3⟩, h4, h5⟩ := F.own x hm
    refine ⟨xs, vs, h1, ?_, ⟨n, k _ _ (seq_notab F.ti h3 ⟨_, _, rfl⟩) (fun vs q => by cases q) h3⟩, h4.mono (fun _ q => q) ll fun a o _ _ hd ho => k a o (seq_notab F.ti ho hd) (fun vs q => by obtain ⟨_, _, hd⟩ := hd; rw [hd] at q; cases q) ho, h5⟩
    cases h2 with
    | loc q1 q2 q3 =>
      have nt := dict_notab F.ti q2
      obtain ⟨o, es, ep, ho, hd, r⟩ := q2
      exact .loc q1 ⟨o, es, ep, k _ o nt (fun vs q => by rw [hd] at q; cases q) ho, hd, r⟩ q3
    | cell q1 q2 q3 =>
      have nt := cell_notab F.ti q3
      obtain ⟨o, ho, hd⟩ := q3
      exact .cell q1 q2 ⟨o, k _ o nt (fun vs q => by rw [hd] at q; cases q) ho, hd⟩
  oinj := F.oinj

theorem Fm.notMutF (F : Fm W env σ O ω g l0 s0 l s) {b : Addr} {o : Obj} {vs : Array Value} (ho : s.heap.get? b = some o) (hd : o.data = .fields vs) : ¬ Mut env O ω b :=
  F.notMut (fun y hy q => by
    obtain ⟨_, _, _, _, ⟨n, h3⟩, _⟩ := F.own y hy
    rw [← q, ho] at h3; cases h3; cases hd) ho (.inr ⟨vs, hd⟩)

/-! for -/
noncomputable def FI (W : Wd) (d : Nat) (env : Env) (Γ : Ctx) (O : List PySem.Str) (e : Expr) (xs : List PV) : Prop :=
  ∀ (ω : PySem.Str → Addr) (g : Heap) (l0 : Lab) (s0 : Shared) (l : Lab) (A : Around) (s : Shared) (E : Value → Shared → Prop), Rm d A → Fm W env Γ.loc O ω g l0 s0 l s →
    wpAny W.M A (eval e env) (fun v s₁ => wpAny W.M A (pyIter v) (fun it s₂ => ∃ l', Ext W l s l' s₂ ∧ IterOk W A it xs (NotOwn O ω) s l' s₂) E s₁) E s

theorem IterOk.wid {A : Around} {it : Value} {xs : List PV} {V V' : Addr → Prop} (x : IterOk W A it xs V s0 l s) (h : ∀ a, V a → V' a) : IterOk W A it xs V' s0 l s := by
  obtain ⟨I, fp, n, P, St, e, x⟩ := x
  exact ⟨I, fp, n, P, St, e, x.walk, x.len, x.st, fun i v y hp hy => (x.item i v y hp hy).wid h, x.fresh, x.live, fun b hb => ⟨(x.fp b hb).1, (x.fp b hb).2.1, (x.fp b hb).2.2.imp id fun q => ⟨h _ q.1, q.2⟩⟩⟩
theorem FI.V {e : Expr} {xs : List PV} (h : EvI W d env (Γ.loc.without O) e xs) : FI W d env Γ O e xs := fun ω g l0 s0 l A s E hR F =>
  wpAny_mono (h g l _ A s E hR F.base F.envOkV) (fun v s₁ q => wpAny_mono q (fun it s₂ ⟨l', e, x⟩ => ⟨l', e, x.wid fun a ha => ha.elim id fun q => F.freshNot q⟩) fun _ _ q => q) fun _ _ q => q

theorem Ex.for {x : PySem.Str} {p pos : Pos} {iter : Expr} {body rest : List Stmt} {xs : List PV} {N : Ctx → List PySem.Str → Prop} {R : PV → Prop} (hi : FI W d env Γ O iter xs) (Inv : Nat → Ctx → List PySem.Str → Prop) (h0 : Inv 0 Γ O)
    (hk : env.kindOf x = some .local ∨ env.kindOf x = some .cell)
    (turn : ∀ i y Γ' O', xs[i]? = some y → Inv i Γ' O' → x ∉ O' ∧ ∃ Γ₁, Upd x y Γ' Γ₁ ∧ Ex W d env Γ₁ O' body (fun Γ'' O'' => Inv (i + 1) Γ'' O'') R)
    (done : ∀ Γ' O', Inv xs.length Γ' O' → Ex W d env Γ' O' rest N R)
    (hfold : ∀ x, foldedSetIterable iter env x = pure x := by intro _; rfl) : Ex W d env Γ O (.For (.Name x p) iter body [] pos :: rest) N R := by
  refine Ex.cons (N₁ := fun Γ' O' => Inv xs.length Γ' O') (fun ω g l0 s0 l A s E hRm F => ?_) done
  refine wpAny_For (wpAny_hm (wpAny_mono (hi ω g l0 s0 l A s E hRm F) (fun v s₁ q₁ hm₁ => wpAny_hm (wpAny_mono q₁ (fun it s₂ q₂ hm₂ => ?_) fun _ _ q => q)) fun _ _ q => q)) hfold
  obtain ⟨l₂, e₂, I, fp, n, P, St, rfl, hI⟩ := q₂
  have F₂ := F.step e₂
  have est := e₂.stp (M := Mut env O ω) (hm₁.trans hm₂)
  obtain ⟨io, ivs, hio, _, hid⟩ := hI.live 0 _ hI.st
  have hIt : I ∉ W.tabs := fun hm => by
    obtain ⟨ps, e⟩ := W.ti_tab F₂.ti I hm
    obtain ⟨io', ivs', hio', hnc, hid'⟩ := hI.live 0 _ hI.st
    rw [e] at hio'; cases hio'
    rcases hnc with hnc | ⟨hnc, _⟩
    · exact hnc _ rfl
    · exact hnc rfl
  have hI0 : Fresh s0 I := fresh_of_ext F.ext.toExt0 I hI.fresh
  refine codeAny_forLoop (fun k s₁ => ∃ i l₁ Γ' O' ω', k = n + 1 - i ∧ i ≤ n ∧ Stp W (fun b => Mut env O ω b ∨ b = I) l₂ s₂ l₁ s₁ ∧ Inv i Γ' O' ∧ Fm W env Γ'.loc O' ω' g l0 s0 l₁ s₁ ∧ Grow O ω O' ω' s₂ ∧ St i s₁.heap) (fun k s₁ hK => ?_) (n + 1)
    ⟨0, l₂, Γ, O, ω, rfl, Nat.zero_le _, Stp.refl F₂.ti F₂.tk, h0, F₂, Grow.refl, hI.st⟩
  obtain ⟨i, l₁, Γ', O', ω', rfl, hin, st, hInv, F₁, G, hSt⟩ := hK
  obtain ⟨oI, vI, hoI, hnI, hdI⟩ := hI.live i _ hSt
  have bump : ∀ h₁ tk₁, (∀ b o, b ∉ [I] → s₁.heap.get? b = some o → h₁.get? b = some o) → s₁.toks ≤ tk₁ → Hm s₁.heap h₁ → Stp W (fun b => b = I) l₁ s₁ l₁ { s₁ with heap := h₁, toks := tk₁ } := fun h₁ tk₁ hk htk hm =>
    ⟨⟨h₁, tk₁, rfl⟩, fun b o _ hb e => hk b o (by simpa using hb) e, hm,
      W.ti_but hoI hnI (fun b o hb e => hk b o (by simpa using hb) e) F₁.ti, fun _ _ q => q, TokOk.up (s' := { s₁ with heap := h₁, toks := tk₁ }) F₁.tk htk⟩
  rcases Nat.lt_or_ge i n with hlt | hge
  · refine wpAny_hm (wpAny_with_toks (Nat.le_refl _) (hI.walk.item i s₁ _ _ hlt hSt fun v h₁ tk₁ hP hst₁ hk₁ htk₁ hm => ?_))
    obtain ⟨y, hy⟩ : ∃ y, xs[i]? = some y := ⟨_, List.getElem?_eq_getElem (by rw [← hI.len]; exact hlt)⟩
    obtain ⟨hxO, Γ₁, hu, hbody⟩ := turn i y Γ' O' hy hInv
    obtain ⟨oI', vI', hoI', _, hdI'⟩ := hI.live (i + 1) _ hst₁
    have sb := bump h₁ tk₁ hk₁ htk₁ hm
    have F₁' : Fm W env Γ'.loc O' ω' g l0 s0 l₁ { s₁ with heap := h₁, toks := tk₁ } := F₁.stepK (sb.ext F₁.ext fun b q => by subst q; exact hI0)
      (fun b o hb hd e => sb.keep b o hb (fun q => by subst q; rw [hoI] at e; cases e; exact hd _ hdI) e) sb.ll
    have st' := st.trans sb fun b q => .inl (.inr q)
    -- the item
    have hv : VRep (NotOwn O' ω') l₁ h₁ v y := by
      refine (hI.item i v y hP hy).ex.mono ?_ st'.ll fun a o ⟨hV, _⟩ _ hd ho => st'.keep a o (seq_notab F₂.ti ho hd) ?_ ho
      · intro a ⟨hV, o, ho, _⟩ z hz e
        rcases G z hz with ⟨q, q2⟩ | q
        · exact hV z q (e.trans q2)
        · rw [← e] at q; rw [Heap.get?_none_of_le q] at ho; cases ho
      · rintro (q | q)
        · exact F₂.notMut hV ho (.inl hd) q
        · subst q; rw [hio] at ho; cases ho; obtain ⟨_, _, hd⟩ := hd; rw [hid] at hd; cases hd
    refine wpAny_assign_Name (F₁'.store hxO hk hv fun s₃ st₃ F₃ => ?_)
    rw [← hu.loc] at F₃
    refine wpAny_mono (hbody ω' g l0 s0 l₁ A s₃ _ hRm F₃) (fun f s₄ q₄ => ?_) fun _ _ q => q
    have q₅ := q₄.thread st₃ Grow.refl
    cases f with
    | next =>
      obtain ⟨l₄, st₄, Γ'', O'', ω'', hInv', F₄, G₄⟩ := q₅
      have G₄' : Grow O ω O'' ω'' s₂ := G.trans G₄ st'.hm.size
      refine ⟨n + 1 - (i + 1), by omega, i + 1, l₄, Γ'', O'', ω'', rfl, hlt, st'.trans st₄ fun b q => ?_, hInv', F₄, G₄', hI.walk.frame _ _ _ hst₁ fun b hb o e => ?_⟩
      · rcases G.mut q with q | q
        · exact .inl (.inl q)
        · exact .inr q
      · obtain ⟨_, hbt, hb⟩ := hI.fp b hb
        refine st₄.keep b o hbt ?_ e
        rcases hb with rfl | ⟨hV, its, nn, hob⟩
        · exact F₁'.notMutF hoI' hdI'
        · have hbI : b ≠ I := fun q => by subst q; rw [hio] at hob; cases hob; cases hid
          have hk2 : h₁.get? b = some _ := st'.keep b _ hbt (fun q => by
            rcases q with q | q
            · exact F₂.notMut hV hob (.inl ⟨_, _, rfl⟩) q
            · exact hbI q) hob
          refine F₁'.notMut (fun z hz q => ?_) hk2 (.inl ⟨_, _, rfl⟩)
          rcases G z hz with ⟨q1, q2⟩ | q1
          · exact hV z q1 (q.trans q2)
          · rw [← q] at q1; rw [Heap.get?_none_of_le q1] at hob; cases hob
    | ret v =>
      obtain ⟨l₄, st₄, pv, hRv, hv4⟩ := q₅
      refine ⟨l₄, ?_, pv, hRv, hv4⟩
      refine est.trans (st'.trans (M := fun b => Mut env O ω b ∨ b = I) st₄ fun b q => ?_) fun b q => ?_
      · rcases G.mut q with q | q
        · exact .inl (.inl q)
        · exact .inr q
      · rcases q with q | q
        · exact .inl q
        · exact .inr (q ▸ hI.fresh)
    | brk => exact absurd q₅.choose_spec.2 id
    | cont => exact absurd q₅.choose_spec.2 id
  · have hi' : i = n := Nat.le_antisymm hin hge
    subst hi'
    refine wpAny_hm (wpAny_with_toks (Nat.le_refl _) (hI.walk.done s₁ _ _ hSt fun h₁ tk₁ hk₁ htk₁ hm => ?_))
    have sb := bump h₁ tk₁ hk₁ htk₁ hm
    have F₁' : Fm W env Γ'.loc O' ω' g l0 s0 l₁ { s₁ with heap := h₁, toks := tk₁ } := F₁.stepK (sb.ext F₁.ext fun b q => by subst q; exact hI0)
      (fun b o hb hd e => sb.keep b o hb (fun q => by subst q; rw [hoI] at e; cases e; exact hd _ hdI) e) sb.ll
    have st' := st.trans sb fun b q => .inl (.inr q)
    refine wpAny_execs_nil ⟨l₁, est.trans st' fun b q => ?_, Γ', O', ω', hI.len ▸ hInv, F₁', fun z hz => ?_⟩
    · rcases q with q | q
      · exact .inl q
      · exact .inr (q ▸ hI.fresh)
    · rcases G z hz with q | q
      · exact .inl q
      · exact .inr (Nat.le_trans est.hm.size q)
end
end Mine

namespace Mine
local macro_rules | `(tactic| omega) => `(tactic| lia)

section
variable {W : Wd} {d : Nat} {env : Env} {σ : Loc} {Γ : Ctx} {O : List PySem.Str}

/-- x = y = e, a plain value -/
theorem Ex.two {x y : PySem.Str} {px py pos : Pos} {e : Expr} {rest : List Stmt} {pv : PV} {Γ₁ Γ₂ : Ctx} {N : Ctx → List PySem.Str → Prop} {R : PV → Prop} (he : EvTN W d env Γ.loc (eval e env) pv) (hi : pv.imm = true) (hx : x ∉ O) (hy : y ∉ O)
    (hkx : env.kindOf x = some .local ∨ env.kindOf x = some .cell) (hky : env.kindOf y = some .local ∨ env.kindOf y = some .cell) (hu : Upd x pv Γ Γ₁) (hu2 : Upd y pv Γ₁ Γ₂) (hr : Ex W d env Γ₂ O rest N R)
    (hw : swappedStores [.Name x px, .Name y py] e env = pure none := by rfl) : Ex W d env Γ O (.Assign [.Name x px, .Name y py] e pos :: rest) N R := fun ω g l0 s0 l A s E hR F => by
  refine wpAny_execs_cons (wpAny_Assign_two (wpAny_hm (wpAny_mono (he g l _ A s E hR F.base F.envOk) (fun v s₁ q₁ hm => ?_) fun _ _ q => q)) rfl hw)
  obtain ⟨l₁, e₁, r₁⟩ := q₁
  refine wpAny_assign_Name ((F.step e₁).store hx hkx (r₁.of_imm hi) fun s₂ st F₂ => ?_)
  refine wpAny_assign_Name (F₂.store hy hky (r₁.of_imm hi) fun s₃ st₃ F₃ => ?_)
  rw [← hu.loc, ← hu2.loc] at F₃
  exact wpAny_mono (hr ω g l0 s0 l₁ A s₃ E hR F₃) (fun f s' q' => q'.thread (((e₁.stp hm).trans st fun _ q => .inl q).trans st₃ fun _ q => .inl q) Grow.refl) fun _ _ q => q

theorem tup_vals {V : Addr → Prop} {l : Lab} {h : Heap} {v : Value} {a b : PV} (r : VRep V l h v (.tup [a, b])) : ∃ t u w, v = .ref t ∧ IsTup h t #[u, w] ∧ VRep V l h u a ∧ VRep V l h w b := by
  cases r with
  | tup ha hp hs =>
    cases hs with
    | cons h1 h2 => cases h2 with
      | cons h2 h3 => cases h3; exact ⟨_, _, _, rfl, hp, h1, h2⟩

theorem Stp.glue {M : Addr → Prop} {l l' l'' : Lab} {s s' s'' : Shared} (e : Ext W l s l' s') (x : Stp W M l' s' l'' s'') (hm : Hm s.heap s''.heap) : Stp W M l s l'' s'' := by
  obtain ⟨h1, t1, e1⟩ := e.same
  obtain ⟨h2, t2, e2⟩ := x.same
  exact ⟨⟨h2, t2, by rw [e2, e1]⟩, fun b o hb hm e' => x.keep b o hb hm (e.keep b o hb e'), hm, x.ti, fun t z q => x.ll t z (e.ll t z q), x.tk⟩

/-- two names, one after another -/
theorem store_two {x y : PySem.Str} {px py : Pos} {u w : Value} {a b : PV} {Γ₁ Γ₂ : Ctx} {ω : PySem.Str → Addr} {g : Heap} {l0 l : Lab} {s0 s : Shared} {A : Around} {E : Value → Shared → Prop} {Q : Unit → Shared → Prop} (F : Fm W env Γ.loc O ω g l0 s0 l s) (hx : x ∉ O) (hy : y ∉ O)
    (hkx : env.kindOf x = some .local ∨ env.kindOf x = some .cell) (hky : env.kindOf y = some .local ∨ env.kindOf y = some .cell) (hu : Upd x a Γ Γ₁) (hu2 : Upd y b Γ₁ Γ₂) (ru : VRep (NotOwn O ω) l s.heap u a) (rw' : VRep (NotOwn O ω) l s.heap w b)
    (h : ∀ s', Stp W (Mut env O ω) l s l s' → Fm W env Γ₂.loc O ω g l0 s0 l s' → Q () s') : wpAny W.M A (storeName env x u) (fun _ s₁ => wpAny W.M A (storeName env y w) Q E s₁) E s := by
  refine F.store hx hkx ru fun s₂ st F₂ => ?_
  refine F₂.store hy hky (F.vrep st Grow.refl rw') fun s₃ st₃ F₃ => ?_
  rw [← hu.loc, ← hu2.loc] at F₃
  exact h s₃ (st.trans st₃ fun _ q => .inl q) F₃

/-- x, y = e -/
theorem Ex.pair {x y : PySem.Str} {px py tp pos : Pos} {k : Nat} {e : Expr} {rest : List Stmt} {a b : PV} {Γ₁ Γ₂ : Ctx} {N : Ctx → List PySem.Str → Prop} {R : PV → Prop} (he : FEv W d env Γ O (eval e env) (.tup [a, b])) (hx : x ∉ O) (hy : y ∉ O)
    (hkx : env.kindOf x = some .local ∨ env.kindOf x = some .cell) (hky : env.kindOf y = some .local ∨ env.kindOf y = some .cell) (hu : Upd x a Γ Γ₁) (hu2 : Upd y b Γ₁ Γ₂) (hr : Ex W d env Γ₂ O rest N R)
    (hs : swapsWithSole [.Tuple [.Name x px, .Name y py] k tp] e pos.line env = pure false := by rfl)
    (hw : swappedStores [.Tuple [.Name x px, .Name y py] k tp] e env = pure none := by rfl) : Ex W d env Γ O (.Assign [.Tuple [.Name x px, .Name y py] k tp] e pos :: rest) N R := fun ω g l0 s0 l A s E hR F => by
  refine wpAny_execs_cons (Assign_Tuple (wpAny_hm (wpAny_mono (he ω g l0 s0 l A s E hR F) (fun v s₁ q₁ hm => ?_) fun _ _ q => q)) hs hw)
  obtain ⟨l₁, e₁, r₁⟩ := q₁
  obtain ⟨t, u, w, rfl, ht, ru, rw'⟩ := tup_vals r₁
  refine wpAny_hm (assign_Tuple_tuple hR.hd ht rfl rfl fun h' he' => ?_)
  have F₁ := F.step e₁
  have k2 : HLe s₁.heap h' := fun b o q => he' b o (Nat.ne_of_lt (Heap.lt_size q)) q
  have e₂ : Ext W l₁ s₁ l₁ { s₁ with heap := h' } := (Ext0.of_le (tk := s₁.toks) F₁.ti k2).up F₁.tk (Nat.le_refl _)
  show wpAny W.M A (assignInOrder [PySem.assign (Expr.Name x px) env, PySem.assign (Expr.Name y py) env] [u, w]) _ E _
  have two := store_two (E := E) (Q := fun _ s₃ => Hm s₁.heap s₃.heap → wpAny W.M A (execs rest env) (ExPost W env O ω g l0 s0 l s N R) E s₃) (px := px) (py := py) (A := A) (F₁.step e₂) hx hy hkx hky hu hu2 (ru.ext F₁.ti e₂ fun _ q => q) (rw'.ext F₁.ti e₂ fun _ q => q) fun s₃ st F₃ hm3 =>
    wpAny_mono (hr ω g l0 s0 l₁ A s₃ E hR F₃) (fun f s' q' => q'.thread ((e₁.stp hm).trans (st.glue e₂ hm3) fun _ q => .inl q) Grow.refl) fun _ _ q => q
  refine wpAny_bind (wpAny_holding (wpAny_assign_Name ?_))
  refine wpAny_mono two (fun _ s₂ h₂ => ?_) fun _ _ q => q
  refine wpAny_bind (wpAny_holding (wpAny_assign_Name ?_))
  exact wpAny_mono h₂ (fun _ s₃ h₃ => wpAny_pure h₃) fun _ _ q => q

/-- x, y = a, b where the stores are swapped -/
theorem Ex.pairSw {x y : PySem.Str} {px py tp pos : Pos} {k : Nat} {e : Expr} {rest : List Stmt} {a b : PV} {Γ₁ Γ₂ : Ctx} {N : Ctx → List PySem.Str → Prop} {R : PV → Prop} (he : FEv W d env Γ O (eval e env) (.tup [a, b])) (hx : x ∉ O) (hy : y ∉ O)
    (hkx : env.kindOf x = some .local ∨ env.kindOf x = some .cell) (hky : env.kindOf y = some .local ∨ env.kindOf y = some .cell) (hu : Upd y b Γ Γ₁) (hu2 : Upd x a Γ₁ Γ₂) (hr : Ex W d env Γ₂ O rest N R)
    (hs : swapsWithSole [.Tuple [.Name x px, .Name y py] k tp] e pos.line env = pure false := by rfl)
    (hw : swappedStores [.Tuple [.Name x px, .Name y py] k tp] e env = pure (some [x, y]) := by rfl) : Ex W d env Γ O (.Assign [.Tuple [.Name x px, .Name y py] k tp] e pos :: rest) N R := fun ω g l0 s0 l A s E hR F => by
  refine wpAny_execs_cons (Assign_Tuple_swapped (names := [x, y]) (wpAny_hm (wpAny_mono (he ω g l0 s0 l A s E hR F) (fun v s₁ q₁ hm => ?_) fun _ _ q => q)) hs hw)
  obtain ⟨l₁, e₁, r₁⟩ := q₁
  obtain ⟨t, u, w, rfl, ht, ru, rw'⟩ := tup_vals r₁
  refine wpAny_hm ?_
  show wpAny W.M A (unpackItems (.ref t) (#[u, w] : Array Value).size none) _ E s₁
  refine unpackItems_tuple hR.hd ht fun h' he' hm2 => ?_
  have F₁ := F.step e₁
  have k2 : HLe s₁.heap h' := fun b o q => he' b o (Nat.ne_of_lt (Heap.lt_size q)) q
  have e₂ : Ext W l₁ s₁ l₁ { s₁ with heap := h' } := (Ext0.of_le (tk := s₁.toks) F₁.ti k2).up F₁.tk (Nat.le_refl _)
  show wpAny W.M A (assignInOrder [bindName env y, bindName env x] [w, u]) _ E _
  refine wpAny_bind (wpAny_holding (wpAny_bindName (wpAny_mono (store_two (px := px) (py := py) (F₁.step e₂) hy hx hky hkx hu hu2 (rw'.ext F₁.ti e₂ fun _ q => q) (ru.ext F₁.ti e₂ fun _ q => q) fun s₃ st F₃ => ?_) (fun _ s₂ h₂ => wpAny_bind (wpAny_holding (wpAny_bindName h₂))) fun _ _ q => q)))
  refine wpAny_pure ?_
  exact wpAny_mono (hr ω g l0 s0 l₁ A s₃ E hR F₃) (fun f s' q' => q'.thread ((e₁.stp hm).trans ((e₂.stp hm2).trans st fun _ q => .inl q) fun _ q => .inl q) Grow.refl) fun _ _ q => q

/-! stores into owned lists -/
theorem setItem_plain {A : Around} {E : Value → Shared → Prop} {s : Shared} {a : Addr} {items : Array Value} {k : Int} {t : Tok} {v : Value} {Q : Unit → Shared → Prop} (hl : s.heap.PlainList a items)
    (h0 : 0 ≤ k) (hfit : k < 2 ^ 63) (hn : k < items.size) (hQ : ∀ h', h'.PlainList a (items.setIfInBounds k.toNat v) → Heap.SameBut a s.heap h' → Q () { s with heap := h' }) :
    wpAny W.M A (setItem (.ref a) (.int k t) v) Q E s := by
  have hL := hl.isList
  obtain ⟨n, ho⟩ := hl
  unfold setItem
  try with_reducible refine wpAny_holding ?_
  first | refine wpAny_bind (wpAny_pure ?_) | skip
  refine wpAny_bind (wpAny_sequenceKey hL.typeIs (by decide) ?_)
  refine wpAny_bind (wpAny_callSpecial?_slot (name := Str.ofString "__setitem__") hL.typeIs slot_list_setitem
    (wpAny_call_entry slot_list_setitem hL.typeIs entry_list_setitem ?_ (args_list_setitem _ _ _)))
  show wpAny _ _ (Builtin.List.listSubscript? (.int k t) >>= _) _ _ s
  refine wpAny_bind (wpAny_listSubscript_int (fitsIndex_of h0 hfit) ?_)
  clear hfit
  obtain ⟨j, rfl⟩ := Int.eq_ofNat_of_zero_le h0
  have hj : j < items.size := by omega
  show wpAny _ _ ((seqItemAt a j >>= fun r => pure (r.map (j, ·))) >>= _) _ _ s
  refine wpAny_bind (wpAny_bind (wpAny_seqItemAt ho rfl (wpAny_pure ?_)))
  rw [Array.getElem?_eq_getElem hj]
  show wpAny _ _ (setSeqItemAt a j v >>= _) _ _ s
  refine wpAny_bind (wpAny_setSeqItemAt ho rfl ?_)
  have hfin : (s.heap.update a (Obj.mapSeq (·.setIfInBounds j v))).PlainList a (items.setIfInBounds j v) := by
    refine ⟨_, Heap.get?_update_self _ ho ?_⟩
    rfl
  exact wpAny_pure ⟨.none, rfl, wpAny_pure (hQ _ hfin (Heap.SameBut.update ..))⟩
end
end Mine

namespace Mine
local macro_rules | `(tactic| omega) => `(tactic| lia)

section
variable {W : Wd} {d : Nat} {env : Env} {σ : Loc} {Γ : Ctx} {O : List PySem.Str}

theorem set_toArray {α : Type} (vs : List α) (k : Nat) (v : α) : vs.toArray.setIfInBounds k v = (vs.set k v).toArray := by simp
theorem push_toArray {α : Type} (vs : List α) (v : α) : vs.toArray.push v = (vs ++ [v]).toArray := by simp
theorem reverse_toArray {α : Type} (vs : List α) : vs.toArray.reverse = vs.reverse.toArray := by simp

/-- x[i] = e, x owned -/
theorem Ex.setItem {x : PySem.Str} {px spos pos : Pos} {i e : Expr} {rest : List Stmt} {xs : List PV} {k : Int} {pv : PV} {Γ' : Ctx} {N : Ctx → List PySem.Str → Prop} {R : PV → Prop} (hx : x ∈ O) (hxs : Γ.lookup x = some (.list xs)) (he : FEv W d env Γ O (eval e env) pv)
    (hi : EvTN W d env Γ.loc (eval i env) (.int k)) (h0 : 0 ≤ k) (h63 : k < 2 ^ 63) (hk : k < xs.length) (hu : Upd x (.list (xs.set k.toNat pv)) Γ Γ') (hr : Ex W d env Γ' O rest N R)
    (hs : swapsWith e (some (.Subscript (.Name x px) i spos)) pos.line env = pure false := by rfl) (hd : (x == ("__debug__" : PySem.Str)) = false := by rfl) (hc : (x == ("__classdict__" : PySem.Str)) = false := by rfl) :
    Ex W d env Γ O (.Assign [.Subscript (.Name x px) i spos] e pos :: rest) N R := fun ω g l0 s0 l A s E hR F => by
  refine wpAny_execs_cons (wpAny_Assign_Subscript (wpAny_hm (wpAny_mono (he ω g l0 s0 l A s E hR F) (fun v s₁ q₁ hm₁ => ?_) fun _ _ q => q)) hs)
  obtain ⟨l₁, e₁, r₁⟩ := q₁
  have F₁ := F.step e₁
  obtain ⟨ys, vs, h1, h2, h3, h4, h5⟩ := F₁.own x hx
  rw [show Γ.loc x = some (.list xs) from hxs] at h1; cases h1
  refine wpAny_Name (h2.load F.fn ?_ hc) hd
  refine wpAny_hm (wpAny_mono (hi g l₁ _ A s₁ E hR F₁.base F₁.envOk) (fun iv s₂ q₂ hm₂ => ?_) fun _ _ q => q)
  obtain ⟨l₂, e₂, r₂⟩ := q₂
  cases r₂
  have F₂ := F₁.step e₂
  have h3' : s₂.heap.PlainList (ω x) vs.toArray := by obtain ⟨n, h3⟩ := h3; exact ⟨n, e₂.keep _ _ (seq_notab F₁.ti h3 ⟨_, _, rfl⟩) h3⟩
  refine setItem_plain h3' h0 h63 (by simpa [h4.length] using hk) fun h' hp hsb => ?_
  rw [set_toArray] at hp
  obtain ⟨st, F₃⟩ := F₂.update (tk := s₂.toks) hx hsb hp ((h4.ext F₁.ti e₂ fun _ q => q).set (r₁.ext F₁.ti e₂ fun _ q => q) k.toNat) (Nat.le_refl _)
  rw [← hu.loc] at F₃
  exact wpAny_mono (hr ω g l0 s0 l₂ A _ E hR F₃) (fun f s' q' => q'.thread ((((e₁.trans e₂).stp (hm₁.trans hm₂))).trans st fun _ q => .inl q) Grow.refl) fun _ _ q => q

/-- x.append(e), x owned -/
theorem Ex.append {x : PySem.Str} {px apos cpos pos : Pos} {e : Expr} {rest : List Stmt} {xs : List PV} {pv : PV} {Γ' : Ctx} {N : Ctx → List PySem.Str → Prop} {R : PV → Prop} (hx : x ∈ O) (hxs : Γ.lookup x = some (.list xs)) (he : FEv W d env Γ O (eval e env) pv)
    (hl : xs.length ≤ 1000000) (hu : Upd x (.list (xs ++ [pv])) Γ Γ') (hr : Ex W d env Γ' O rest N R)
    (hline : (apos.endLine == cpos.line) = true := by rfl) (hbase : attributeBase (.Name x px) "append" env (eval (.Name x px) env) = eval (.Name x px) env := by rfl)
    (hfew : ((backTo cpos (starEach [e] env)).all (fun x => !x.1) && (backToKw cpos (keywordEach [] env)).all (fun x => x.1.isSome) && decide ([e].length + ([] : List Keyword).length + (if ([] : List Keyword).isEmpty then 0 else 1) < 30)) = true := by rfl)
    (hst : starEach [e] env = [(false, eval e env)] := by rfl) (hin : interactive env = false := by rfl) (hs : swapsWith (.Call (.Attribute (.Name x px) "append" apos) [e] [] cpos) none pos.line env = pure false := by rfl)
    (hd : (x == ("__debug__" : PySem.Str)) = false := by rfl) (hc : (x == ("__classdict__" : PySem.Str)) = false := by rfl) :
    Ex W d env Γ O (.Expr (.Call (.Attribute (.Name x px) "append" apos) [e] [] cpos) pos :: rest) N R := fun ω g l0 s0 l A s E hR F => by
  obtain ⟨ys, vs, h1, h2, h3, h4, h5⟩ := F.own x hx
  rw [show Γ.loc x = some (.list xs) from hxs] at h1; cases h1
  refine wpAny_execs_cons (wpAny_Expr (wpAny_Call_method hbase hfew hline PySem.F.plainAttrs_list PySem.F.slot_list_append PySem.F.type_list_append (wpAny_Name (h2.load F.fn ⟨h3.isList.typeIs, fun b q => ?_, Calls.callWith_builtin (by rw [hst]; rfl) ?_⟩ hc) hd)) hin hs)
  · cases q; obtain ⟨n, h3⟩ := h3; exact ⟨_, h3, rfl⟩
  rw [hst]
  refine Calls.evalArgs_plain (x := eval e env) (rest := []) (Calls.spliced_cons (wpAny_hm (wpAny_mono (he ω g l0 s0 l A s E hR F) (fun v s₁ q₁ hm₁ => Calls.spliced_nil ?_) fun _ _ q => q)))
  obtain ⟨l₁, e₁, r₁⟩ := q₁
  have F₁ := F.step e₁
  have h3' : s₁.heap.PlainList (ω x) vs.toArray := by obtain ⟨n, h3⟩ := h3; exact ⟨n, e₁.keep _ _ (seq_notab F.ti h3 ⟨_, _, rfl⟩) h3⟩
  refine wpAny_list_append_plain (hsz := by simp [h4.length, sizeLine]; omega) h3' fun h' hp hsb => ?_
  rw [push_toArray] at hp
  obtain ⟨st, F₃⟩ := F₁.update (tk := s₁.toks) hx hsb hp ((h4.ext F.ti e₁ fun _ q => q).append (.cons r₁ .nil)) (Nat.le_refl _)
  rw [← hu.loc] at F₃
  exact wpAny_mono (hr ω g l0 s0 l₁ A _ E hR F₃) (fun f s' q' => q'.thread ((e₁.stp hm₁).trans st fun _ q => .inl q) Grow.refl) fun _ _ q => q

/-- x.reverse(), x owned -/
theorem Ex.reverse {x : PySem.Str} {px apos cpos pos : Pos} {rest : List Stmt} {xs : List PV} {Γ' : Ctx} {N : Ctx → List PySem.Str → Prop} {R : PV → Prop} (hx : x ∈ O) (hxs : Γ.lookup x = some (.list xs))
    (hl : xs.length ≤ 1000000) (hu : Upd x (.list xs.reverse) Γ Γ') (hr : Ex W d env Γ' O rest N R)
    (hline : (apos.endLine == cpos.line) = true := by rfl) (hbase : attributeBase (.Name x px) "reverse" env (eval (.Name x px) env) = eval (.Name x px) env := by rfl)
    (hin : interactive env = false := by rfl) (hs : swapsWith (.Call (.Attribute (.Name x px) "reverse" apos) [] [] cpos) none pos.line env = pure false := by rfl)
    (hd : (x == ("__debug__" : PySem.Str)) = false := by rfl) (hc : (x == ("__classdict__" : PySem.Str)) = false := by rfl) :
    Ex W d env Γ O (.Expr (.Call (.Attribute (.Name x px) "reverse" apos) [] [] cpos) pos :: rest) N R := fun ω g l0 s0 l A s E hR F => by
  obtain ⟨ys, vs, h1, h2, h3, h4, h5⟩ := F.own x hx
  rw [show Γ.loc x = some (.list xs) from hxs] at h1; cases h1
  obtain ⟨n, ho⟩ := id h3
  refine wpAny_execs_cons (wpAny_Expr (wpAny_Call_method hbase rfl hline PySem.F.plainAttrs_list PySem.F.slot_list_reverse PySem.F.type_list_reverse (wpAny_Name (h2.load F.fn ⟨h3.isList.typeIs, fun b q => ?_, Calls.callWith_builtin rfl (PySem.evalArgs_none ?_)⟩ hc) hd)) hin hs)
  · cases q; exact ⟨_, ho, rfl⟩
  refine call_meets PySem.F.slot_list_reverse h3.isList.typeIs PySem.F.entry_list_reverse (PySem.F.args_list_reverse_1 _) (AutoSeq1.list_reverse_list_0 (ω x) vs.toArray n (by simp [h4.length, sizeLine]; omega)) ⟨ho, ?_⟩
  have hp : (s.heap.update (ω x) (Obj.mapSeq fun x => x.reverse)).PlainList (ω x) vs.reverse.toArray := by
    rw [← reverse_toArray]
    exact ⟨_, Heap.get?_update_self _ ho rfl⟩
  obtain ⟨st, F₃⟩ := F.update (tk := s.toks) hx (Heap.SameBut.update ..) hp h4.reverse (Nat.le_refl _)
  rw [← hu.loc] at F₃
  exact wpAny_mono (hr ω g l0 s0 l A _ E hR F₃) (fun f s' q' => q'.thread st Grow.refl) fun _ _ q => q

/-- for .. in list(x), x owned -/
theorem FI.copy {f x : PySem.Str} {p q pos : Pos} {xs : List PV} (hx : x ∈ O) (hxs : Γ.lookup x = some (.list xs)) (G : GNm W env f (.type "list")) (hl : xs.length ≤ sizeLine) (hst : starEach [.Name x q] env = [(false, eval (.Name x q) env)] := by rfl)
    (hd : (x == ("__debug__" : PySem.Str)) = false := by rfl) (hc : (x == ("__classdict__" : PySem.Str)) = false := by rfl) : FI W d env Γ O (.Call (.Name f p) [.Name x q] [] pos) xs := fun ω g l0 s0 l A s E hR F => by
  obtain ⟨ys, vs, h1, h2, h3, h4, h5⟩ := F.own x hx
  rw [show Γ.loc x = some (.list xs) from hxs] at h1; cases h1
  refine wpAny_Call_NameR (G.load F.base F.envOk ?_)
  refine callWith_any (.inr (.inl ⟨_, rfl⟩)) (by rw [hst]; rfl) F.base ?_
  rw [hst]
  refine Calls.evalArgs_plain (x := eval (.Name x q) env) (rest := []) (Calls.spliced_cons (wpAny_Name (h2.load F.fn (Calls.spliced_nil ⟨⟨l, Ext.refl F.ti F.tk⟩, ?_⟩) hc) hd))
  obtain ⟨n, ho⟩ := id h3
  refine call_list_seq (ω x) (.inl rfl) ho rfl rfl (fun h' c' hk hnew => ?_) (by simpa [h4.length] using hl)
  have e₁ : Ext W l s l { s with heap := h' } := (Ext0.of_le (tk := s.toks) F.ti hk).up F.tk (Nat.le_refl _)
  have F₁ := F.step e₁
  have hp : h'.PlainList s.heap.objs.size vs.toArray := ⟨c', hnew⟩
  exact wpAny_pyIter_list hp.isList ⟨_, e₁.trans (Ext.push F₁.ti F₁.tk), iter_list (s := { s with heap := h' }) hR.hd F₁.ti hp (F.freshNot fresh_size) (h4.ext F.ti e₁ fun _ q => q) fun b hb => fresh_of_ext e₁.toExt0 b hb⟩

/-! a function's call -/
structure FnOk (W : Wd) (a : Addr) (fd : FuncData) (body : List Stmt) : Prop where
  loc : ∃ o, W.K.lookup a = some o ∧ o.data = .func fd
  code : codeIn W.K fd.code fd.qualname = true
  body : fd.body = .stmts body
  clo : fd.closure = []
  co : fd.scope.isCoroutine = false
  gen : fd.scope.isGenerator = false
  kind : fd.scope.kind = .function
  gl : fd.globals = mainGlobals
  bu : fd.builtins = builtinsNs

theorem FnOk.callee {a : Addr} {fd : FuncData} {body : List Stmt} (h : FnOk W a fd body) : Callee W (.ref a) := .inr (.inr (let ⟨o, h1, h2⟩ := h.loc; ⟨a, rfl, fun g hg => ⟨o, fd, hg.inK _ _ h1, h2⟩⟩))

theorem bindL_get {k : PySem.Str → Option NameKind} : ∀ {binds : List (PySem.Str × Value)} {m : PySem.Str → Option Value}, (binds.map (·.1)).Nodup → ∀ {x v}, k x = some .local → ((x, v) ∈ binds ∨ (x ∉ binds.map (·.1) ∧ m x = some v)) → bindL k binds m x = some v
  | [], m, _, x, v, hk, h => by simpa [bindL] using h
  | (n, u) :: r, m, hd, x, v, hk, h => by
    simp only [List.map_cons, List.nodup_cons] at hd
    unfold bindL
    refine bindL_get hd.2 hk ?_
    rcases h with h | ⟨h, h2⟩
    · rcases List.mem_cons.mp h with q | q
      · cases q; exact .inr ⟨hd.1, by simp [hk]⟩
      · exact .inl q
    · simp only [List.map_cons, List.mem_cons, not_or] at h
      refine .inr ⟨h.2, ?_⟩
      split
      · simp [h.1, h2]
      · exact h2
theorem bindC_get {k : PySem.Str → Option NameKind} : ∀ {binds : List (PySem.Str × Value)} {m : PySem.Str → Option Value}, (binds.map (·.1)).Nodup → ∀ {x v}, k x ≠ some .local → ((x, v) ∈ binds ∨ (x ∉ binds.map (·.1) ∧ m x = some v)) → bindC k binds m x = some v
  | [], m, _, x, v, hk, h => by simpa [bindC] using h
  | (n, u) :: r, m, hd, x, v, hk, h => by
    simp only [List.map_cons, List.nodup_cons] at hd
    unfold bindC
    refine bindC_get hd.2 hk ?_
    rcases h with h | ⟨h, h2⟩
    · rcases List.mem_cons.mp h with q | q
      · cases q; exact .inr ⟨hd.1, by simp [hk]⟩
      · exact .inl q
    · simp only [List.map_cons, List.mem_cons, not_or] at h
      refine .inr ⟨h.2, ?_⟩
      split
      · exact h2
      · simp [h.1, h2]

theorem VReps.zipGet {V : Addr → Prop} {l : Lab} {h : Heap} : ∀ {xs : List PySem.Str} {vs : List Value} {pvs : List PV}, VReps V l h vs pvs → ∀ {x pv}, (xs.zip pvs).lookup x = some pv → ∃ v, (x, v) ∈ xs.zip vs ∧ VRep V l h v pv
  | [], _, _, _, _, _, e => by simp at e
  | _ :: _, _, _, .nil, _, _, e => by simp at e
  | z :: xs, _, _, @VReps.cons _ _ _ v p vs ps h1 h2, x, pv, e => by
    simp only [List.zip_cons_cons, List.lookup_cons] at e
    by_cases hx : x = z
    · subst hx; simp at e; subst e; exact ⟨v, by simp, h1⟩
    · have : (x == z) = false := by simpa using hx
      rw [this] at e
      obtain ⟨u, q1, q2⟩ := VReps.zipGet h2 e
      exact ⟨u, by simp [q1], q2⟩

/-- the frame at a function's start -/
theorem Fm.entry {a : Addr} {fd : FuncData} {body : List Stmt} (hf : FnOk W a fd body) {names : List PySem.Str} {vs : List Value} {pvs : List PV} {g : Heap} {l : Lab} {s s₁ : Shared} {V : Addr → Prop} (hB : Base W g l s) (hv : VReps V l s.heap vs pvs) (hnd : names.Nodup) (hlen : names.length = vs.length)
    (hk : ∀ x ∈ names, fd.scope.names.lookup x = some .local ∨ (fd.scope.names.lookup x = some .cell ∧ ((cellsFrom (s.heap.objs.size + 1) fd.scope.names []).lookup x).isSome = true))
    (hcells : ∀ x, fd.scope.names.lookup x = some .cell → ((cellsFrom (s.heap.objs.size + 1) fd.scope.names []).lookup x).isSome = true)
    (hI : InCallC s (callEnvC fd s.heap.objs.size a).locals (bindL (callEnvC fd s.heap.objs.size a).kindOf (names.zip vs) fun _ => none) (callEnvC fd s.heap.objs.size a).cells (bindC (callEnvC fd s.heap.objs.size a).kindOf (names.zip vs) fun _ => none) s₁) (htk : s.toks ≤ s₁.toks) :
    Fm W (callEnvC fd s.heap.objs.size a) (Ctx.loc (names.zip pvs)) [] (fun _ => 0) g l s l s₁ := by
  obtain ⟨h', tk, e1, e2⟩ := hI.done
  subst e1
  have ext : Ext W l s l { s with heap := h', toks := tk } := (Ext0.of_le hB.ti e2).up hB.tok htk
  have cellv : ∀ x, fd.scope.names.lookup x = some .cell → ∃ c, (callEnvC fd s.heap.objs.size a).cells.lookup x = some c ∧ h'.IsCell c (bindC (callEnvC fd s.heap.objs.size a).kindOf (names.zip vs) (fun _ => none) x) ∧ Fresh s c := fun x hx => by
    obtain ⟨c, hc⟩ := Option.isSome_iff_exists.mp (hcells x hx)
    exact ⟨c, hc, hI.cell x c hc, Heap.get?_none_of_le (Nat.le_of_lt (hI.above x c (mem_of_lookup hc)))⟩
  have hmap : (names.zip vs).map (·.1) = names := by rw [← List.unzip_fst, List.unzip_zip hlen]
  refine ⟨hB, ext, ⟨hf.kind, hf.gl, hf.bu⟩, fresh_size, ⟨_, hI.toInCall.ns⟩, fun x hx => ?_, fun x y c h1 h2 => name_of_addr hI.apart (mem_of_lookup h1) (mem_of_lookup h2), fun x pv hx _ => ?_, (by simp), (by simp)⟩
  · obtain ⟨c, h1, h2, h3⟩ := cellv x hx
    exact ⟨c, _, h1, h2, h3⟩
  · obtain ⟨v, h1, h2⟩ := hv.zipGet hx
    have hxn : x ∈ names := (List.of_mem_zip h1).1
    refine ⟨v, ?_, (h2.ext hB.ti ext fun _ q => q).wid fun _ _ y hy => by cases hy⟩
    rcases hk x hxn with q | ⟨q, _⟩
    · exact .loc q hI.toInCall.ns (bindL_get (by rw [hmap]; exact hnd) q (.inl h1))
    · obtain ⟨c, q1, q2, q3⟩ := cellv x q
      have : bindC (callEnvC fd s.heap.objs.size a).kindOf (names.zip vs) (fun _ => none) x = some v := bindC_get (by rw [hmap]; exact hnd) (by show fd.scope.names.lookup x ≠ _; rw [q]; intro q; cases q) (.inl h1)
      rw [this] at q2
      exact .cell (.inl q) q1 q2

/-- a function's call, by its body -/
theorem CallSp.fn {a : Addr} {fd : FuncData} {body : List Stmt} (hf : FnOk W a fd body) {names : List PySem.Str} {pvs : List PV} {r : PV} (hnd : names.Nodup) (hlen : names.length = pvs.length)
    (hbind : ∀ vs : List Value, vs.length = pvs.length → bindArgs fd ⟨vs, []⟩ = pure (names.zip vs))
    (hk : ∀ L, ∀ x ∈ names, fd.scope.names.lookup x = some .local ∨ (fd.scope.names.lookup x = some .cell ∧ ((cellsFrom (L + 1) fd.scope.names []).lookup x).isSome = true))
    (hcells : ∀ L x, fd.scope.names.lookup x = some .cell → ((cellsFrom (L + 1) fd.scope.names []).lookup x).isSome = true)
    (hb : ∀ L, Ex W d (callEnvC fd L a) (names.zip pvs) [] body (fun _ _ => r = .none) (· = r)) : CallSp W (d + 1) (.ref a) pvs r := by
  intro g l V A s E vs hR hB hv
  obtain ⟨o, ho, hod⟩ := hf.loc
  have hl := hv.length
  have hzip : ∀ x ∈ names.zip vs, x.1 ∈ names := fun x hx => (List.of_mem_zip (a := x.1) (b := x.2) hx).1
  refine wpAny_call (codeAny_call_function hR.depth (hB.le _ _ (hB.gl.inK _ _ ho)) hod hf.co hf.gen hf.body ((codeRec_of hB.gl.inK hf.code).keeps hB.le) ?_)
  rw [hbind vs hl, hf.clo]
  refine wpAny_pure (wpAny_with_toks (Nat.le_refl _) (wpAny_newFunctionEnv_cells hf.kind (fun x hx => hk _ x.1 (hzip x hx)) fun env he s₁ hI htk => ?_))
  subst he
  refine ⟨(hB.gl.top.nolimit.keeps hB.le).keeps hI.toInCall.keep, codeAny_func ?_⟩
  have F0 := Fm.entry hf hB hv hnd (by rw [hlen, hl]) (fun x hx => hk _ x hx) (fun x hx => hcells _ x hx) hI htk
  refine wpAny_mono (hb s.heap.objs.size _ g l s l (A.deeper _) s₁ _ (hR.deeper _) F0) (fun f s' q => ?_) fun _ _ q => q
  obtain ⟨l', st, q⟩ := q
  have ext := st.ext F0.ext fun b hb => F0.mutFresh hb
  cases f with
  | next =>
    obtain ⟨Γ', O', ω', hn, _⟩ := q
    subst hn
    exact ⟨l', ext, .none⟩
  | ret v =>
    obtain ⟨pv, hpv, q⟩ := q
    subst hpv
    exact ⟨l', ext, q⟩
  | brk => exact q.elim
  | cont => exact q.elim
end
end Mine

namespace Mine
local macro_rules | `(tactic| omega) => `(tactic| lia)

/-! functions within functions -/
noncomputable def TabSt (P : Addr) (pos : Pos) (qual : PySem.Str) (h : Heap) : Prop :=
  ∃ ps, h.get? P = some (tabObj ps) ∧ (ps = #[] ∨ ∃ c', ps = #[rawInt pos.line, rawInt pos.col, .ref c'] ∧ h.CodeRec (.ref c') qual)
structure TabW (W : Wd) (c P : Addr) (pos : Pos) (qual : PySem.Str) : Prop where
  mem : P ∈ W.tabs
  st : ∀ h, W.TI h → TabSt P pos qual h
  up : ∀ h h', W.TI h → Heap.ExtBut P h h' → TabSt P pos qual h' → W.TI h'
  hd : ∀ g, Glob W g → CodeHd g c P
  nost : ∀ h, W.TI h → ∀ P ∈ W.tabs, ∀ vs, h.get? P = some (tabObj vs) → ∀ q t, vs[1]? ≠ some (.str q t)

section
variable {W : Wd} {d : Nat} {env : Env} {σ : Loc} {Γ : Ctx} {O : List PySem.Str} {ω : PySem.Str → Addr} {g : Heap} {l0 l : Lab} {s0 s : Shared}

/-- a name gets a value that no context tells -/
theorem Fm.storeAny (F : Fm W env Γ.loc O ω g l0 s0 l s) {x : PySem.Str} {v : Value} {A : Around} {E : Value → Shared → Prop} {Q : Unit → Shared → Prop} (hx : x ∉ O) (hΓ : Γ.lookup x = none) (hk : env.kindOf x = some .local ∨ env.kindOf x = some .cell)
    (h : ∀ s', Stp W (Mut env O ω) l s l s' → Fm W env Γ.loc O ω g l0 s0 l s' → Reads1 env s'.heap x v → Q () s') : wpAny W.M A (storeName env x v) Q E s := by
  refine F.storeX hk fun s' tk' h' hs' hst hr hns hcl hrd hvr hvrs hpl => h s' hst ?_ (by subst hs'; exact hr)
  subst hs'
  refine ⟨F.base0, hst.ext F.ext fun b q => F.mutFresh q, F.fn, F.lf, hns, hcl, F.cinj, fun y pv' hy hm => ?_, fun y hy => ?_, F.oinj⟩
  · by_cases hyx : y = x
    · subst hyx; rw [show Γ.loc y = none from hΓ] at hy; cases hy
    · obtain ⟨u, h1, h2⟩ := F.val y pv' hy hm
      exact ⟨u, hrd y u hyx h1, hvr _ _ _ h2⟩
  · obtain ⟨xs, vs, h1, h2, h3, h4, h5⟩ := F.own y hy
    have hyx : y ≠ x := fun q => hx (q ▸ hy)
    exact ⟨xs, vs, h1, hrd y _ hyx h2, hpl _ _ h3, hvrs _ _ _ h4, h5⟩

theorem builtinsAt {P : Addr} (hB : Base W g l s) (hP : P ∈ W.tabs) : s.heap.BuiltinsAt W.mg P := by
  obtain ⟨bm, ob, b1, b2, b3, b4, b5, b6⟩ := hB.gl.top.bmain
  refine ⟨bm, ob, b1, b2, fun q => ?_, fun q => ?_, hB.le _ _ b3, b4, b5, b6⟩
  · obtain ⟨o, es, ep, h1, h2, _⟩ := hB.gl.top.g
    rw [← q, b3] at h1; cases h1; rw [b6] at h2; cases h2
  · rw [q, hB.gl.notab P hP] at b3; cases b3

/-- def within a function: a new function, its code made now or before -/
theorem nest_def {A : Around} {E : Value → Shared → Prop} {Q : Flow → Shared → Prop} {c P : Addr} {name qual : PySem.Str} {params : Arguments} {body : List Stmt} {scope : Scope} {pos : Pos} (T : TabW W c P pos qual) (F : Fm W env Γ.loc O ω g l0 s0 l s)
    (hcode : env.code = .ref c) (hq : qualnameIn env name name = qual) (hk : env.kindOf name = some .local ∨ env.kindOf name = some .cell) (hx : name ∉ O) (hΓ : Γ.lookup name = none)
    (hd0 : params.defaults = []) (hk0 : params.kw_defaults = []) (ha : annTrees params none env = []) (hfree : ∀ p ∈ scope.names, p.2 = .free → (env.cells.lookup p.1).isSome = true)
    (h : ∀ s' f clos doc c' ctv, Stp W (Mut env O ω) l s l s' → Fm W env Γ.loc O ω g l0 s0 l s' → Reads1 env s'.heap name (.ref f) → s'.heap.get? f = some (fnMade name qual params body scope clos doc ((W.mg "__name__").getD .none) c' ctv) →
      s'.heap.CodeRec (.ref c') qual → ClOk scope env clos → (∀ x y c, clos.lookup x = some c → clos.lookup y = some c → x = y) → Fresh s f → Q .next s') :
    wpAny W.M A (exec (.FunctionDef name params body [] none [] scope none name pos) env) Q E s := by
  refine nestDef_K hd0 hk0 ha ?_
  rw [hq]
  obtain ⟨clos, hcl, hclo, hcm⟩ := closure_ok hfree
  have hinj : ∀ x y c, clos.lookup x = some c → clos.lookup y = some c → x = y := fun x y c h1 h2 => F.cinj x y c (hcm _ _ (mem_of_lookup h1)) (hcm _ _ (mem_of_lookup h2))
  have hB := F.base
  have hg : s.heap.Ns mainGlobals W.mg := hB.gl.top.g.keeps hB.le
  have C : CodeHd s.heap c P := (T.hd g hB.gl).keeps hB.le
  have hbu := builtinsAt hB T.mem
  have hgP : mainGlobals ≠ P := fun q => by
    obtain ⟨o, es, ep, h1, _⟩ := hB.gl.top.g
    rw [q, hB.gl.notab P T.mem] at h1; cases h1
  obtain ⟨ps, hP, hps⟩ := T.st _ F.ti
  have fin : ∀ (h₁ : Heap) (tk : Tok) (doc : Value) (c' : Addr) (ctv : Value), Heap.ExtBut P s.heap h₁ → W.TI h₁ → h₁.CodeRec (.ref c') qual → s.toks ≤ tk → Hm s.heap (h₁.push (fnMade name qual params body scope clos doc ((W.mg "__name__").getD .none) c' ctv)) → s.heap.objs.size ≤ h₁.objs.size →
      wpAny W.M A (storeName env name (.ref h₁.objs.size)) (fun _ s'' => Q .next s'') E { s with heap := h₁.push (fnMade name qual params body scope clos doc ((W.mg "__name__").getD .none) c' ctv), toks := tk } := fun h₁ tk doc c' ctv he hti hrec htk hm hsz => by
    have ext : Ext W l s l { s with heap := h₁.push (fnMade name qual params body scope clos doc ((W.mg "__name__").getD .none) c' ctv), toks := tk } :=
      (Ext0.up (s' := { s with heap := h₁.push (fnMade name qual params body scope clos doc ((W.mg "__name__").getD .none) c' ctv), toks := tk }) ⟨⟨_, tk, rfl⟩, fun b o hb e => Heap.get?_push_of_some _ (he b o (fun q => hb (q ▸ T.mem)) e), W.ti_le (fun _ _ e => Heap.get?_push_of_some _ e) hti⟩ F.tk htk)
    have F₁ := F.step ext
    refine F₁.storeAny hx hΓ hk fun s' st F₂ hr => ?_
    have hfo := Heap.get?_push_size h₁ (o := fnMade name qual params body scope clos doc ((W.mg "__name__").getD .none) c' ctv) rfl
    have kp : ∀ b o, (∃ vs, o.data = .fields vs) ∨ (∃ fd, o.data = .func fd) → b ∉ W.tabs → (h₁.push (fnMade name qual params body scope clos doc ((W.mg "__name__").getD .none) c' ctv)).get? b = some o → s'.heap.get? b = some o := fun b o hd hb e => st.keep b o hb (fun q => by
      rcases q with rfl | ⟨x, h1, h2⟩ | ⟨y, hy, rfl⟩
      · obtain ⟨m, o', es, ep, q1, q2, _⟩ := F₁.ns
        rw [e] at q1; cases q1
        rcases hd with ⟨vs, hd⟩ | ⟨vs, hd⟩ <;> (rw [hd] at q2; cases q2)
      · obtain ⟨c, v, h3, ⟨o', q1, q2⟩, _⟩ := F₁.cell x h1
        rw [h2] at h3; cases h3
        rw [e] at q1; cases q1
        rcases hd with ⟨vs, hd⟩ | ⟨vs, hd⟩ <;> (rw [hd] at q2; cases q2)
      · obtain ⟨_, _, _, _, ⟨n, h3⟩, _⟩ := F₁.own y hy
        rw [e] at h3; cases h3
        rcases hd with ⟨vs, hd⟩ | ⟨vs, hd⟩ <;> cases hd) e
    refine h s' h₁.objs.size clos doc c' ctv ((ext.stp hm).trans st fun _ q => .inl q) F₂ hr (kp _ _ (.inr ⟨_, rfl⟩) (fun q => ?_) hfo) ?_ hclo hinj (Heap.get?_none_of_le hsz)
    · obtain ⟨ps, e⟩ := W.ti_tab (W.ti_le (fun _ _ e => Heap.get?_push_of_some _ e) hti) _ q
      rw [hfo] at e; cases e
    · obtain ⟨cc, oc, vs, t, q1, q2, q3, q4⟩ := hrec
      refine ⟨cc, oc, vs, t, q1, kp _ _ (.inl ⟨_, q3⟩) (fun q => ?_) (Heap.get?_push_of_some _ q2), q3, q4⟩
      obtain ⟨ps', e⟩ := W.ti_tab hti _ q
      rw [q2] at e; cases e
      cases q3
      exact T.nost _ hti _ q _ q2 _ _ q4
  rcases hps with rfl | ⟨c', rfl, hrec⟩
  · refine wpAny_hm (wpAny_with_toks (Nat.le_refl _) (makeFunction_K hcl F.fn.gl hg hcode C hP trivial rfl hgP hbu fun c' ctv doc h₁ tk he hge hlt hrec hP' htk hm => ?_))
    have hti : W.TI h₁ := T.up _ _ F.ti he ⟨_, hP', .inr ⟨c', by simp, hrec⟩⟩
    exact fin h₁ tk doc c' ctv he hti hrec htk hm (Nat.le_trans hge (Nat.le_of_lt hlt))
  · refine wpAny_hm (wpAny_with_toks (Nat.le_refl _) (makeFunction_hit hcl F.fn.gl hg hcode C hP (by simp [TriplesOk, rawInt]) (cv := .ref c') (by simp [codeAmong, rawInt]) hbu fun ctv doc h₁ tk he hsz htk hm => ?_))
    exact fin h₁ tk doc c' ctv (fun b o _ e => he b o e) (W.ti_le he F.ti) (hrec.keeps he) htk hm hsz

/-- a function of the heap -/
structure FnC (W : Wd) (f : Addr) (fd : FuncData) (body : List Stmt) : Prop where
  loc : ∀ g, Glob W g → ∃ o, g.get? f = some o ∧ o.data = .func fd
  code : ∀ g, Glob W g → g.CodeRec fd.code fd.qualname
  body : fd.body = .stmts body
  co : fd.scope.isCoroutine = false
  gen : fd.scope.isGenerator = false
  kind : fd.scope.kind = .function
  gl : fd.globals = mainGlobals
  bu : fd.builtins = builtinsNs
  nocell : ∀ x ∈ fd.scope.names, x.2 ≠ .cell

theorem FnC.callee {f : Addr} {fd : FuncData} {body : List Stmt} (h : FnC W f fd body) : Callee W (.ref f) := .inr (.inr ⟨f, rfl, fun g hg => let ⟨o, h1, h2⟩ := h.loc g hg; ⟨o, fd, h1, h2⟩⟩)

noncomputable abbrev envC (fd : FuncData) (L f : Addr) : Env := newEnv fd.scope L fd.globals fd.closure (fd.qualname ++ ".<locals>.") (some f) fd.code none fd.builtins

theorem call_closure {f : Addr} {fd : FuncData} {body : List Stmt} (hf : FnC W f fd body) {A : Around} {vs : List Value} {names : List PySem.Str} {Q : Value → Shared → Prop} {E : Value → Shared → Prop} (hR : Rm (d + 1) A) (hB : Base W g l s)
    (hbind : bindArgs fd ⟨vs, []⟩ = pure (names.zip vs)) (hk : ∀ x ∈ names, fd.scope.names.lookup x = some .local)
    (h : ∀ h₁ tk E', h₁.Ns s.heap.objs.size (fun x => (names.zip vs).reverse.lookup x) → HLe s.heap h₁ → s.toks ≤ tk → Hm s.heap h₁ →
      wpAny W.M (A.deeper (envC fd s.heap.objs.size f)) (execs body (envC fd s.heap.objs.size f)) (fun fl s' => Q (match fl with | .ret v => v | _ => .none) s') E' { s with heap := h₁, toks := tk }) :
    wpAny W.M A (call (.ref f) vs) Q E s := by
  obtain ⟨o, ho, hod⟩ := hf.loc g hB.gl
  refine wpAny_call (codeAny_call_function hR.depth (hB.le _ _ ho) hod hf.co hf.gen hf.body ((hf.code g hB.gl).keeps hB.le) ?_)
  rw [hbind]
  refine wpAny_pure (wpAny_hm (wpAny_newFunctionEnv hf.nocell (fun x hx => hk _ (List.of_mem_zip (a := x.1) (b := x.2) hx).1) (fun h₁ hns hsb hm => ?_) hf.kind))
  have hle : HLe s.heap h₁ := fun b o e => hsb.extBut b o (Nat.ne_of_lt (Heap.lt_size e)) (Heap.get?_push_of_some _ e)
  exact ⟨(hB.gl.top.nolimit.keeps hB.le).keeps hle, codeAny_func (h h₁ _ _ hns hle (Nat.le_add_right _ _) hm)⟩

theorem mem_zip_reverse : ∀ {names : List PySem.Str} {vs : List Value}, names.Nodup → names.length = vs.length → ∀ {x v}, (x, v) ∈ names.zip vs → (names.zip vs).reverse.lookup x = some v := by
  intro names vs hnd hl x v hm
  have hnd' : ((names.zip vs).reverse.map (·.1)).Nodup := by
    rw [List.map_reverse, ← List.unzip_fst, List.unzip_zip hl]
    exact List.pairwise_reverse.mpr (hnd.imp fun h => Ne.symm h)
  have hm' : (x, v) ∈ (names.zip vs).reverse := List.mem_reverse.mpr hm
  generalize (names.zip vs).reverse = l at hnd' hm'
  induction l with
  | nil => cases hm'
  | cons p r ih =>
    obtain ⟨y, u⟩ := p
    simp only [List.map_cons, List.nodup_cons] at hnd'
    rw [List.lookup_cons]
    rcases List.mem_cons.mp hm' with e | e
    · cases e; simp
    · have hne : (x == y) = false := by
        have : x ≠ y := fun q => hnd'.1 (q ▸ List.mem_map.mpr ⟨_, e, rfl⟩)
        simpa using this
      rw [hne]; exact ih hnd'.2 e

/-- the frame at a closure's start -/
theorem Fm.closure {f : Addr} {fd : FuncData} {body : List Stmt} (hf : FnC W f fd body) {names : List PySem.Str} {vs : List Value} {pvs : List PV} {φ : Ctx} {h₁ : Heap} {tk : Nat} {V : Addr → Prop} (hB0 : Base W g l0 s0) (hext : Ext W l0 s0 l s) (hv : VReps V l s.heap vs pvs) (himm : ∀ x ∈ pvs, x.imm = true) (hnd : names.Nodup) (hlen : names.length = vs.length)
    (hk : ∀ x ∈ names, fd.scope.names.lookup x = some .local) (hcinj : ∀ x y c, fd.closure.lookup x = some c → fd.closure.lookup y = some c → x = y)
    (hφ : ∀ x pv, φ.lookup x = some pv → x ∉ O → fd.scope.names.lookup x = some .free ∧ ∃ c v, fd.closure.lookup x = some c ∧ s.heap.IsCell c (some v) ∧ VRep (NotOwn O ω) l s.heap v pv)
    (hown : ∀ x ∈ O, x ∉ names ∧ ∃ xs us c, φ.lookup x = some (.list xs) ∧ fd.scope.names.lookup x = some .free ∧ fd.closure.lookup x = some c ∧ s.heap.IsCell c (some (.ref (ω x))) ∧ s.heap.PlainList (ω x) us.toArray ∧ VReps (fun _ => True) l s.heap us xs ∧ (∀ y ∈ xs, y.imm = true) ∧ Fresh s0 (ω x))
    (hoinj : ∀ x ∈ O, ∀ y ∈ O, ω x = ω y → x = y)
    (hns : h₁.Ns s.heap.objs.size (fun x => (names.zip vs).reverse.lookup x)) (hle : HLe s.heap h₁) (htk : s.toks ≤ tk) :
    Fm W (envC fd s.heap.objs.size f) (Ctx.loc (names.zip pvs ++ φ)) O ω g l0 s0 l { s with heap := h₁, toks := tk } := by
  have ti := hext.ti
  have ext : Ext W l s l { s with heap := h₁, toks := tk } := (Ext0.of_le ti hle).up hext.tk htk
  have lk : ∀ x pv, (names.zip pvs ++ φ).lookup x = some pv → (names.zip pvs).lookup x = some pv ∨ ((names.zip pvs).lookup x = none ∧ φ.lookup x = some pv) := fun x pv h => by
    rw [List.lookup_append] at h
    cases q : (names.zip pvs).lookup x with
    | some u => rw [q] at h; exact .inl (by simpa using h)
    | none => rw [q] at h; exact .inr ⟨rfl, by simpa using h⟩
  have inn : ∀ x pv, (names.zip pvs).lookup x = some pv → x ∈ names := fun x pv h => (List.of_mem_zip (mem_of_lookupN h)).1
  refine ⟨hB0, hext.trans ext, ⟨hf.kind, hf.gl, hf.bu⟩, fresh_of_ext hext.toExt0 _ fresh_size, ⟨_, hns⟩, fun x hx => ?_, hcinj, fun x pv hx hm => ?_, fun x hx => ?_, hoinj⟩
  · have hx' : fd.scope.names.lookup x = some .cell := hx
    exact absurd rfl (hf.nocell _ (mem_of_lookupN hx'))
  · rcases lk x pv hx with h | ⟨_, h⟩
    · obtain ⟨v, h1, h2⟩ := hv.zipGet h
      exact ⟨v, .loc (hk x (inn x pv h)) hns (mem_zip_reverse hnd hlen h1), h2.of_imm (himm pv (List.of_mem_zip (mem_of_lookupN h)).2)⟩
    · obtain ⟨h1, c, v, h2, h3, h4⟩ := hφ x pv h hm
      exact ⟨v, .cell (.inr h1) h2 (h3.keeps hle), h4.le hle⟩
  · obtain ⟨hxn, xs, us, c, h1, h2, h3, h4, h5, h6, h7, h8⟩ := hown x hx
    refine ⟨xs, us, ?_, .cell (.inr h2) h3 (h4.keeps hle), h5.at fun o e => hle _ o e, h6.of_imm h7, h8⟩
    show (names.zip pvs ++ φ).lookup x = _
    rw [List.lookup_append]
    cases q : (names.zip pvs).lookup x with
    | some u => exact absurd (inn x u q) hxn
    | none => simpa using h1
end
end Mine

namespace Mine
local macro_rules | `(tactic| omega) => `(tactic| lia)

/-- the same world, more known of its ground -/
noncomputable def Wd.plus (W : Wd) (G : Heap → Prop) : Wd := { W with GI := fun h => W.GI h ∧ G h }

section
variable {W : Wd} {d : Nat} {env : Env} {σ : Loc} {Γ : Ctx} {O : List PySem.Str}

theorem Glob.minus {G : Heap → Prop} {g : Heap} (x : Glob (W.plus G) g) : Glob W g := ⟨x.inK, x.top, x.notab, x.gi.1⟩
theorem Base.minus {G : Heap → Prop} {g : Heap} {l : Lab} {s : Shared} (x : Base (W.plus G) g l s) : Base W g l s := ⟨x.gl.minus, x.le, x.ti, x.tok⟩
theorem Ext.minus {G : Heap → Prop} {l l' : Lab} {s s' : Shared} (x : Ext (W.plus G) l s l' s') : Ext W l s l' s' := ⟨⟨x.same, x.keep, x.ti⟩, x.ll, x.tk⟩
theorem Ext.plus {G : Heap → Prop} {l l' : Lab} {s s' : Shared} (x : Ext W l s l' s') : Ext (W.plus G) l s l' s' := ⟨⟨x.same, x.keep, x.ti⟩, x.ll, x.tk⟩
theorem Stp.minus {G : Heap → Prop} {M : Addr → Prop} {l l' : Lab} {s s' : Shared} (x : Stp (W.plus G) M l s l' s') : Stp W M l s l' s' := ⟨x.same, x.keep, x.hm, x.ti, x.ll, x.tk⟩

/-- a ground with more of it -/
theorem Base.ground {G : Heap → Prop} {g g' : Heap} {l : Lab} {s : Shared} (x : Base W g l s) (hg : HLe g g') (hs : HLe g' s.heap) (hn : ∀ P ∈ W.tabs, g'.get? P = none) (hgi : W.GI g → W.GI g') (hG : G g') : Base (W.plus G) g' l s :=
  ⟨⟨fun a o e => hg _ _ (x.gl.inK a o e), x.gl.top.keeps hg, hn, hgi x.gl.gi, hG⟩, hs, x.ti, x.tok⟩

/-- a call of a name that a cell holds -/
theorem EvTN.callC {f : PySem.Str} {p pos : Pos} {e : Expr} {rest : List Expr} {fv : Value} {as : List PV} {r : PV} (hr : ∀ g h, Glob W g → HLe g h → Reads1 env h f fv) (hf : Callee W fv) (ha : EvL W d env σ (e :: rest) as)
    (he : starEach (e :: rest) env = (false, eval e env) :: starEach rest env) (hpl : (backTo pos (starEach rest env)).any (·.1) = false) (hc : CallSp W d fv as r)
    (hd : (f == ("__debug__" : PySem.Str)) = false := by rfl) (hcl : (f == ("__classdict__" : PySem.Str)) = false := by rfl) : EvN W d env σ (.Call (.Name f p) (e :: rest) [] pos) r := by
  intro g l V A s E hR hB hE
  refine wpAny_Call_NameR (wpAny_Name ((hr g s.heap hB.gl hB.le).load hE.fn ?_ hcl) hd)
  refine callWith_any hf (by rw [he]; show (false || (backTo pos (starEach rest env)).any (·.1)) = false; rw [hpl]; rfl) hB ?_
  have hm := ha pos g l V A s E hR hB hE
  rw [he] at hm ⊢
  refine Calls.evalArgs_plain (x := eval e env) (rest := backTo pos (starEach rest env)) (wpAny_mono hm (fun vs s₁ q₁ => ?_) fun _ _ x => x)
  obtain ⟨l₁, e1, r1⟩ := q₁
  refine ⟨⟨_, e1⟩, wpAny_mono (hc g l₁ _ A s₁ E vs hR (hB.ext e1) r1) (fun v s₂ q₂ => ?_) fun _ _ x => x⟩
  obtain ⟨l₂, e2, r2⟩ := q₂
  exact ⟨_, e1.trans e2, r2.wid fun a x => fresh_of_ext e1.toExt0 a x⟩

/-- a closure's call that stores nowhere -/
theorem CallSp.fnC {f : Addr} {fd : FuncData} {body : List Stmt} (hf : FnC W f fd body) {names : List PySem.Str} {pvs : List PV} {φ : Ctx} {r : PV} (hlen : names.length = pvs.length) (himm : ∀ x ∈ pvs, x.imm = true) (hnd : names.Nodup)
    (hbind : ∀ vs : List Value, vs.length = pvs.length → bindArgs fd ⟨vs, []⟩ = pure (names.zip vs)) (hk : ∀ x ∈ names, fd.scope.names.lookup x = some .local) (hcinj : ∀ x y c, fd.closure.lookup x = some c → fd.closure.lookup y = some c → x = y)
    (hφ : ∀ x pv, φ.lookup x = some pv → fd.scope.names.lookup x = some .free ∧ ∀ g l, Glob W g → ∃ c v, fd.closure.lookup x = some c ∧ g.IsCell c (some v) ∧ VRep (fun _ => True) l g v pv)
    (hb : ∀ L, Ex W d (envC fd L f) (names.zip pvs ++ φ) [] body (fun _ _ => r = .none) (· = r)) : CallSp W (d + 1) (.ref f) pvs r := by
  intro g l V A s E vs hR hB hv
  refine call_closure hf hR hB (hbind vs hv.length) hk fun h₁ tk E' hns hle htk hm => ?_
  have F0 := Fm.closure (φ := φ) (O := []) (ω := fun _ => 0) hf hB (Ext.refl hB.ti hB.tok) hv himm hnd (by rw [hlen, hv.length]) hk hcinj (fun x pv hx _ => by
    obtain ⟨h1, h3⟩ := hφ x pv hx
    obtain ⟨c, v, h2, h4, h5⟩ := h3 g l hB.gl
    exact ⟨h1, c, v, h2, h4.keeps hB.le, (h5.le hB.le).wid fun _ _ y hy => nomatch hy⟩) (fun x hx => nomatch hx) (fun x hx => nomatch hx) hns hle htk
  refine wpAny_mono (hb s.heap.objs.size _ g l s l (A.deeper _) _ _ (hR.deeper _) F0) (fun fl s' q => ?_) fun _ _ q => q
  obtain ⟨l', st, q⟩ := q
  have ext := st.ext F0.ext fun b hb => F0.mutFresh hb
  cases fl with
  | next => obtain ⟨Γ', O', ω', hn, _⟩ := q; subst hn; exact ⟨l', ext, .none⟩
  | ret v => obtain ⟨pv, hpv, q⟩ := q; subst hpv; exact ⟨l', ext, q⟩
  | brk => exact q.elim
  | cont => exact q.elim

/-- an owned list changed by another -/
theorem Fm.updateStp {ω : PySem.Str → Addr} {g : Heap} {l0 l l' : Lab} {s0 s s' : Shared} (F : Fm W env σ O ω g l0 s0 l s) {x : PySem.Str} {vs : List Value} {xs : List PV} (hx : x ∈ O) (st : Stp W (fun b => b = ω x) l s l' s') (hp : s'.heap.PlainList (ω x) vs.toArray)
    (hv : VReps (fun _ => False) l' s'.heap vs xs) : Fm W env (σ.set x (.list xs)) O ω g l0 s0 l' s' := by
  obtain ⟨xs0, vs0, hσ, hr, ⟨n, ho⟩, _, hf⟩ := F.own x hx
  have kp : ∀ b o, s.heap.get? b = some o → b ≠ ω x → b ∉ W.tabs → s'.heap.get? b = some o := fun b o e hb ht => st.keep b o ht hb e
  have vr : ∀ {v pv}, VRep (NotOwn O ω) l s.heap v pv → VRep (NotOwn O ω) l' s'.heap v pv := fun r => r.ex.mono (fun b q => q.1) st.ll fun b o q _ hd e => kp b o e (q.1 x hx) (seq_notab F.ti e hd)
  have vrs : ∀ {v pv}, VReps (NotOwn O ω) l s.heap v pv → VReps (NotOwn O ω) l' s'.heap v pv := fun r => r.ex.mono (fun b q => q.1) st.ll fun b o q _ hd e => kp b o e (q.1 x hx) (seq_notab F.ti e hd)
  have rd : ∀ y u, Reads1 env s.heap y u → Reads1 env s'.heap y u := fun y u r => by
    cases r with
    | loc h1 h2 h3 =>
      have nt := dict_notab F.ti h2
      obtain ⟨o, es, ep, q1, q2, q3⟩ := h2
      exact .loc h1 ⟨o, es, ep, kp _ _ q1 (ne_of_kind q1 ho (by rw [q2]; intro q; cases q)) nt, q2, q3⟩ h3
    | cell h1 h2 h3 =>
      have nt := cell_notab F.ti h3
      obtain ⟨o, q1, q2⟩ := h3
      exact .cell h1 h2 ⟨o, kp _ _ q1 (ne_of_kind q1 ho (by rw [q2]; intro q; cases q)) nt, q2⟩
  refine ⟨F.base0, st.ext F.ext fun b q => q ▸ hf, F.fn, F.lf, ?_, fun y hy => ?_, F.cinj, fun y pv hy hm => ?_, fun y hy => ?_, F.oinj⟩
  · obtain ⟨m, hm⟩ := F.ns
    have nt := dict_notab F.ti hm
    obtain ⟨o, es, ep, q1, q2, q3⟩ := hm
    exact ⟨m, o, es, ep, kp _ _ q1 (ne_of_kind q1 ho (by rw [q2]; intro q; cases q)) nt, q2, q3⟩
  · obtain ⟨c, v, h1, h2, h3⟩ := F.cell y hy
    have nt := cell_notab F.ti h2
    obtain ⟨o, q1, q2⟩ := h2
    exact ⟨c, v, h1, ⟨o, kp _ _ q1 (ne_of_kind q1 ho (by rw [q2]; intro q; cases q)) nt, q2⟩, h3⟩
  · have hyx : y ≠ x := fun q => hm (q ▸ hx)
    simp [Loc.set, hyx] at hy
    obtain ⟨u, h1, h2⟩ := F.val y pv hy hm
    exact ⟨u, rd y u h1, vr h2⟩
  · obtain ⟨ys, us, h1, h2, h3, h4, h5⟩ := F.own y hy
    by_cases hyx : y = x
    · subst hyx; exact ⟨xs, vs, by simp [Loc.set], rd _ _ h2, hp, hv.wid fun _ q => q.elim, h5⟩
    · obtain ⟨n', h3⟩ := h3
      exact ⟨ys, us, by simp [Loc.set, hyx, h1], rd _ _ h2, ⟨n', kp _ _ h3 (fun q => hyx (F.oinj y hy x hx q)) (seq_notab F.ti h3 ⟨_, _, rfl⟩)⟩, vrs h4, h5⟩

/-- a bare return -/
theorem Ex.retNone {pos : Pos} {rest : List Stmt} {N : Ctx → List PySem.Str → Prop} {R : PV → Prop} (hR : R .none) : Ex W d env Γ O (.Return none pos :: rest) N R := fun ω g l0 s0 l A s E hRm F =>
  wpAny_execs_cons (wpAny_Return_none ⟨l, Stp.refl F.ti F.tk, _, hR, .none⟩)
end
end Mine

namespace Mine
local macro_rules | `(tactic| omega) => `(tactic| lia)

section
variable {W : Wd} {d : Nat} {env : Env} {σ : Loc}

theorem foldl_rep (v : Value) : ∀ (k : Nat) (a : Array Value), List.foldl (fun x1 x2 => x1 ++ x2) a (List.replicate k #[v]) = a ++ (List.replicate k v).toArray
  | 0, a => by simp
  | k + 1, a => by
    rw [List.replicate_succ, List.foldl_cons, foldl_rep v k, List.replicate_succ]
    apply Array.toList_inj.mp
    simp
theorem VReps.replicate {V : Addr → Prop} {l : Lab} {h : Heap} {v : Value} {x : PV} (r : VRep V l h v x) : ∀ k : Nat, VReps V l h (List.replicate k v) (List.replicate k x)
  | 0 => .nil
  | k + 1 => .cons r (VReps.replicate r k)

theorem Op2.rep {x : PV} {k : Int} (hi : x.imm = true) (h0 : 0 ≤ k) (h1 : k ≤ 2 ^ 20) : Op2 W d (binaryOp .Mult) (.list [x]) (.int k) (.list (List.replicate k.toNat x)) := by
  intro g l V A s E va vb hR hB ha hb
  cases hb with
  | int _ u =>
    cases ha with
    | @list a vs _ hV hp hs =>
      cases hs with
      | @cons v _ _ _ hv ht =>
        cases ht
        obtain ⟨n, ho⟩ := hp
        have hfit : ¬(!Builtin.List.listFitsIndex k) = true := by simp [Builtin.List.listFitsIndex]; omega
        have hlong : ¬Builtin.List.listTooLong ((#[v] : Array Value).size * k.toNat) = true := by simp [Builtin.List.listTooLong, sizeLine]; omega
        have hsz : (#[v] : Array Value).size * k.toNat ≤ 2 ^ 24 := by simp; omega
        refine wpAny_binaryOp_repeat_ref (T := "list") (U := "int") (by decide) ⟨_, ho, rfl⟩ (fun s' => typeIs_int s' k u) noFill_list_mul PySem.F.fills_int_mul PySem.F.slot_int_rmul repeat_list PySem.F.slot_int_index.lookup
          (call_meets PySem.F.slot_int_rmul (typeIs_int s k u) PySem.F.entry_int_rmul (PySem.F.args_int_rmul_2 _ _) (int___rmul___int_list k u a _ n)
            ⟨ho, rfl, ⟨_, ho, rfl⟩, call_meets PySem.F.slot_list_mul ⟨_, ho, rfl⟩ PySem.F.entry_list_mul (PySem.F.args_list_mul_2 _ _)
              (AutoListH.list___mul___list_int_3 a #[v] n k u (by simp [Builtin.List.listFitsIndex]; omega) (by omega) (by simp [Builtin.List.listTooLong, sizeLine]; omega)) ⟨ho, ?_⟩⟩)
        refine ⟨l, Ext.push hB.ti hB.tok, .list (vs := List.replicate k.toNat v) fresh_size ⟨0, ?_⟩ (VReps.replicate (hv.of_imm hi) _)⟩
        rw [Heap.get?_push_size _ rfl]
        have e : List.foldl (fun x1 x2 => x1 ++ x2) #[] (List.replicate (if ([v].toArray : Array Value).isEmpty = true then 0 else k.toNat) [v].toArray) = (List.replicate k.toNat v).toArray := by
          have := foldl_rep v k.toNat #[]
          simpa using this
        rw [e]

theorem CallSp.sumInts {ns : List Int} : CallSp W d (.builtin "sum") [.list (ns.map .int)] (.int ns.sum) := by
  intro g l V A s E vs hR hB hv
  cases hv with
  | cons h1 h2 =>
    cases h2
    cases h1 with
    | list ha hp hs =>
      have hi := hs.ints
      obtain ⟨xs, hx⟩ := hi.allInts.items
      have hl' := hx ▸ hp.isList
      refine wpAny_mono (wp_ext (W := W) hB.tok (Q := fun v s' => VRep (Fresh s) l s'.heap v (.int ns.sum)) (E := E) (sum_intListG hR.hd hl' fun h' tk t' hk => ⟨Ext0.of_le hB.ti hk, ?_⟩)) (fun v s' q => ?_) fun _ _ x => x
      · have e1 : ns = xs.toList.map (·.1) := by
          rw [← nums_intItems, ← hx]
          exact (show numsOf _ = ns from hi.numsOf).symm
        have e2 : preSum (numAt xs) xs.size = ns.sum := by
          rw [preSum_eq, List.take_of_length_le (by simp), e1]
        rw [e2]; exact .int _ _
      · obtain ⟨l', e, rfl, q⟩ := q
        exact ⟨_, e, q⟩
end
end Mine

namespace Mine
local macro_rules | `(tactic| omega) => `(tactic| lia)

theorem and_nat (a b : Nat) : Builtin.bitAnd (a : Int) (b : Int) = ((a &&& b : Nat) : Int) := by
  unfold Builtin.bitAnd
  have h1 : decide ((0 : Int) ≤ (a : Int)) = true := by simp
  have h2 : decide ((0 : Int) ≤ (b : Int)) = true := by simp
  rw [h1, h2]; simp
theorem or_nat (a b : Nat) : Builtin.bitOr (a : Int) (b : Int) = ((a ||| b : Nat) : Int) := by
  unfold Builtin.bitOr Builtin.bitAnd Builtin.bitNot
  have h1 : decide ((0 : Int) ≤ -(a : Int) - 1) = false := by simp; omega
  have h2 : decide ((0 : Int) ≤ -(b : Int) - 1) = false := by simp; omega
  rw [h1, h2]
  simp only
  have e1 : (-(-(a : Int) - 1) - 1).toNat = a := by omega
  have e2 : (-(-(b : Int) - 1) - 1).toNat = b := by omega
  rw [e1, e2]; omega

theorem and_mask (a n : Nat) : Builtin.bitAnd (a : Int) ((2 : Int) ^ n - 1) = ((a % 2 ^ n : Nat) : Int) := by
  have e : ((2 : Int) ^ n - 1) = ((2 ^ n - 1 : Nat) : Int) := by
    have : 1 ≤ 2 ^ n := Nat.one_le_two_pow
    rw [Int.ofNat_sub this]; simp
  rw [e, and_nat, Nat.and_two_pow_sub_one_eq_mod]
theorem or_shift (a b n : Nat) (h : b < 2 ^ n) : Builtin.bitOr ((a * 2 ^ n : Nat) : Int) (b : Int) = ((a * 2 ^ n + b : Nat) : Int) := by
  rw [or_nat]
  have := Nat.shiftLeft_add_eq_or_of_lt h a
  rw [Nat.shiftLeft_eq] at this
  rw [this]
theorem and_high (a n : Nat) : a &&& (a / 2 ^ n * 2 ^ n) = a / 2 ^ n * 2 ^ n := by
  apply Nat.eq_of_testBit_eq
  intro i
  rw [Nat.testBit_and]
  have e : a / 2 ^ n * 2 ^ n = (a >>> n) <<< n := by rw [Nat.shiftLeft_eq, Nat.shiftRight_eq_div_pow]
  rw [e, Nat.testBit_shiftLeft, Nat.testBit_shiftRight]
  by_cases h : n ≤ i
  · have : n + (i - n) = i := by omega
    simp [h, this]
  · simp [h]
theorem xor_high (a n : Nat) : Builtin.bitXor (a : Int) ((a / 2 ^ n * 2 ^ n : Nat) : Int) = ((a % 2 ^ n : Nat) : Int) := by
  rw [bitXor_and, and_nat, and_high]
  have h1 : 2 ^ n * (a / 2 ^ n) + a % 2 ^ n = a := Nat.div_add_mod a (2 ^ n)
  have h2 : a / 2 ^ n * 2 ^ n = 2 ^ n * (a / 2 ^ n) := Nat.mul_comm _ _
  rw [h2]; omega
theorem fdiv_nat (a b : Nat) : (a : Int).fdiv (b : Int) = ((a / b : Nat) : Int) := by
  rw [Int.fdiv_eq_ediv_of_nonneg _ (Int.natCast_nonneg b)]; simp
theorem fmod_nat (a b : Nat) : (a : Int).fmod (b : Int) = ((a % b : Nat) : Int) := by
  rw [Int.fmod_eq_emod_of_nonneg _ (Int.natCast_nonneg b)]; simp
theorem shr_nat (a n : Nat) : (a : Int).fdiv (2 ^ ((n : Int)).toNat) = ((a / 2 ^ n : Nat) : Int) := by
  have : ((2 : Int) ^ ((n : Int)).toNat) = ((2 ^ n : Nat) : Int) := by simp
  rw [this, fdiv_nat]
theorem shl_nat (a n : Nat) : (a : Int) * 2 ^ ((n : Int)).toNat = ((a * 2 ^ n : Nat) : Int) := by simp

theorem bits_nat_le {a m : Nat} (h : a < 2 ^ m) : Builtin.Int.intBits (a : Int) ≤ m := intBits_le_iff.mpr (by simpa using h)
theorem bits_nat_le_iff {a m : Nat} : Builtin.Int.intBits (a : Int) ≤ m ↔ a < 2 ^ m := by rw [intBits_le_iff]; simp

theorem pylong_no {x y : Int} (h : y.natAbs < 2 ^ 9000) : Builtin.divisionGoesByPylong x y = false := by
  unfold Builtin.divisionGoesByPylong
  have h3 : ∀ d : Nat, d ≤ 300 → (decide (d > 300)) = false := fun d hd => by simp; omega
  simp only
  rw [h3 _ ?_]
  · rfl
  · split
    · omega
    · rename_i hy
      have hy' : y.natAbs ≠ 0 := by simpa using hy
      have := (Nat.log2_lt hy').mpr h
      omega
end Mine

namespace Mine
local macro_rules | `(tactic| omega) => `(tactic| lia)

/-- a text of code points -/
noncomputable def S (l : List Nat) : PySem.Str := ⟨l.toArray⟩
theorem S_length (l : List Nat) : (S l).length = l.length := by simp [S, PySem.Str.length]
theorem S_inj {a b : List Nat} : S a = S b ↔ a = b := ⟨fun h => by have := congrArg (fun x : PySem.Str => x.cps.toList) h; simpa [S] using this, fun h => by rw [h]⟩

theorem range_pick {α : Type} (xs : List α) (a : Nat) : ∀ m : Nat, a + m ≤ xs.length → ((List.range m).map (fun k => k + a)).filterMap (xs[·]?) = (xs.drop a).take m := by
  intro m hm
  induction m with
  | zero => simp
  | succ m ih =>
    rw [List.range_succ, List.map_append, List.filterMap_append, ih (by omega), List.take_add_one]
    congr 1
    simp only [List.map_cons, List.map_nil, List.filterMap_cons, List.filterMap_nil]
    rw [List.getElem?_drop, Nat.add_comm a m]
    rw [List.getElem?_eq_getElem (by omega : m + a < xs.length)]
    rfl
theorem sliceRange_nat (a b : Nat) (h : a ≤ b) : sliceRange (a : Int) (b : Int) 1 = (List.range (b - a)).map (fun k => k + a) := by
  unfold sliceRange
  have h1 : (1 : Int) > 0 := by decide
  simp only [h1, if_true]
  have hc : (if (a : Int) < b then ((b : Int) - a + 1 - 1) / 1 else 0).toNat = b - a := by
    split
    · rw [Int.ediv_one]; omega
    · omega
  rw [hc]
  apply List.map_congr_left
  intro k _
  omega
theorem slice_nat {l : List Nat} {lo hi : Option Int} {a b : Nat} (hab : a ≤ b) (hb : b ≤ l.length) (h : Builtin.Str.strSliceIndices lo hi 1 l.length = sliceRange (a : Int) (b : Int) 1) : Txt.slice (S l) lo hi = S ((l.drop a).take (b - a)) := by
  unfold Txt.slice
  rw [S_length, h, sliceRange_nat a b hab]
  have e : ((List.range (b - a)).map (fun k => k + a)).filterMap ((S l).cps[·]?) = (l.drop a).take (b - a) := by
    rw [← range_pick l a (b - a) (by omega)]
    simp [S]
  rw [e]
  split
  · rename_i hc
    have hlen : b - a = l.length := by simpa using hc
    have ha : a = 0 := by omega
    subst ha
    rw [List.drop_zero, List.take_of_length_le (by omega)]
  · rfl
theorem slice_from {l : List Nat} {k : Nat} (h : k ≤ l.length) : Txt.slice (S l) (some (k : Int)) none = S (l.drop k) := by
  rw [slice_nat (a := k) (b := l.length) h (Nat.le_refl _) ?_]
  · congr 1; exact List.take_of_length_le (by simp)
  · unfold Builtin.Str.strSliceIndices
    simp only
    have h1 : (1 : Int) > 0 := by decide
    simp only [h1, if_true]
    congr 1
    have : ¬ ((k : Int) < 0) := by omega
    simp only [this, if_false]; omega
theorem slice_all {l : List Nat} : Txt.slice (S l) none none = S l := by
  rw [slice_nat (a := 0) (b := l.length) (Nat.zero_le _) (Nat.le_refl _) ?_]
  · congr 1; rw [List.drop_zero]; exact List.take_of_length_le (by simp)
  · unfold Builtin.Str.strSliceIndices; rfl
theorem slice_less {l : List Nat} {k : Nat} (h : k ≤ l.length) (hk : 0 < k) : Txt.slice (S l) none (some (-(k : Int))) = S (l.take (l.length - k)) := by
  rw [slice_nat (a := 0) (b := l.length - k) (Nat.zero_le _) (by omega) ?_]
  · congr 1
  · unfold Builtin.Str.strSliceIndices
    simp only
    have h1 : (1 : Int) > 0 := by decide
    simp only [h1, if_true]
    congr 1
    have : (-(k : Int)) < 0 := by omega
    simp only [this, if_true]; omega
theorem seqIndex_nat {i n : Nat} (h : i < n) : seqIndex? (i : Int) n = some i := by
  unfold seqIndex?
  have h3 : ¬ ((i : Int) < 0) := by omega
  simp only [h3, if_false]
  rw [if_pos (by simp only [Bool.and_eq_true, decide_eq_true_eq]; omega)]
  simp
theorem seqIndex_neg {i n : Nat} (h : i ≤ n) (h0 : 0 < i) : seqIndex? (-(i : Int)) n = some (n - i) := by
  unfold seqIndex?
  have h3 : (-(i : Int)) < 0 := by omega
  simp only [h3, if_true]
  rw [if_pos (by simp only [Bool.and_eq_true, decide_eq_true_eq]; omega)]
  congr 1; omega
theorem get_nat {l : List Nat} {i : Nat} (h : i < l.length) : (seqIndex? (i : Int) (S l).length).bind ((S l).cps[·]?) = some l[i] := by
  rw [S_length, seqIndex_nat h]; simp [S, h]
theorem get_neg {l : List Nat} {i : Nat} (h : i < l.length) : (seqIndex? (-((i : Int)) - 1) (S l).length).bind ((S l).cps[·]?) = some (l.reverse[i]'(by simpa using h)) := by
  have e : (-((i : Int)) - 1) = -((i + 1 : Nat) : Int) := by omega
  rw [S_length, e, seqIndex_neg (by omega) (by omega)]
  have : l.length - (i + 1) < l.length := by omega
  simp only [Option.bind_some, S]
  rw [List.getElem?_toArray, List.getElem?_eq_getElem this, List.getElem_reverse]
  congr 2; omega

/-! lists -/
theorem pickL_nat {α : Type} {xs : List α} {lo hi st : Option Int} {a b : Nat} (hab : a ≤ b) (hb : b ≤ xs.length) (h : (sliceRange (sliceBounds lo hi st xs.length).1 (sliceBounds lo hi st xs.length).2.1 (sliceBounds lo hi st xs.length).2.2) = sliceRange (a : Int) (b : Int) 1) :
    (sliceRange (sliceBounds lo hi st xs.length).1 (sliceBounds lo hi st xs.length).2.1 (sliceBounds lo hi st xs.length).2.2).filterMap (xs[·]?) = (xs.drop a).take (b - a) := by
  rw [h, sliceRange_nat a b hab, range_pick xs a (b - a) (by omega)]
end Mine

namespace Mine
local macro_rules | `(tactic| omega) => `(tactic| lia)

theorem rangeSize1 (a b : Nat) (h : a ≤ b) : Builtin.Range.rangeSize (a : Int) (b : Int) 1 = ((b - a : Nat) : Int) := by
  unfold Builtin.Range.rangeSize
  rw [if_pos (by decide)]
  split
  · rw [Int.ediv_one]; omega
  · omega
theorem rangeSize2 (n : Nat) : Builtin.Range.rangeSize 2 (2 * ((n : Int) + 1)) 2 = (n : Int) := by
  unfold Builtin.Range.rangeSize
  rw [if_pos (by decide)]
  split
  · omega
  · omega
theorem range_small1 {a b : Nat} (ha : a ≤ 2 ^ 20) (hb : b ≤ 2 ^ 20) (h : a ≤ b) : Builtin.Range.small (a : Int) (b : Int) 1 = true := by
  unfold Builtin.Range.small Builtin.Range.rangeFitsLong
  rw [rangeSize1 a b h]
  simp
  omega
theorem range_small2 {n : Nat} (hn : n ≤ 2 ^ 20) : Builtin.Range.small 2 (2 * ((n : Int) + 1)) 2 = true := by
  unfold Builtin.Range.small Builtin.Range.rangeFitsLong
  rw [rangeSize2 n]
  simp
  omega

section
variable {W : Wd} {d : Nat} {env : Env} {σ : Loc}

theorem rangeL_nat (a n : Nat) : rangeL (a : Int) 1 n = (List.range n).map fun (i : Nat) => PV.int ((a + i : Nat) : Int) := by
  unfold rangeL
  apply List.map_congr_left
  intro i _
  congr 1
  omega

/-- range(n) -/
theorem EvI.rng1 {f : PySem.Str} {p pos : Pos} {e : Expr} {n : Nat} (G : GNm W env f (.type "range")) (ha : EvL W d env σ [e] [.int (n : Nat)]) (hn : n ≤ 2 ^ 20) (he : starEach [e] env = [(false, eval e env)] := by rfl) :
    EvI W d env σ (.Call (.Name f p) [e] [] pos) ((List.range n).map fun (i : Nat) => PV.int (i : Int)) := by
  have h := EvI.range (pos := pos) (p := p) (n := n) G ha he rfl RangeCall.one (range_small1 (a := 0) (by omega) hn (by omega)) (rangeSize1 0 n (by omega))
  have e2 := rangeL_nat 0 n
  simp only [Nat.zero_add] at e2
  rw [show (0 : Int) = ((0 : Nat) : Int) from rfl, e2] at h
  exact h
/-- range(a, b) -/
theorem EvI.rng2 {f : PySem.Str} {p pos : Pos} {e e2 : Expr} {a b : Nat} (G : GNm W env f (.type "range")) (ha : EvL W d env σ [e, e2] [.int (a : Nat), .int (b : Nat)]) (hab : a ≤ b) (hb : b ≤ 2 ^ 20) (he : starEach [e, e2] env = [(false, eval e env), (false, eval e2 env)] := by rfl) (he2 : starEach [e2] env = [(false, eval e2 env)] := by rfl) :
    EvI W d env σ (.Call (.Name f p) [e, e2] [] pos) ((List.range (b - a)).map fun (i : Nat) => PV.int ((a + i : Nat) : Int)) := by
  have h := EvI.range (pos := pos) (p := p) (n := b - a) G ha (by rw [he, he2]) (by rw [he2]; rfl) RangeCall.two (range_small1 (by omega) hb hab) (rangeSize1 a b hab)
  rw [rangeL_nat a] at h
  exact h

theorem itemsOf_vreps {V : Addr → Prop} {l : Lab} {h : Heap} (f : Nat → Int) : ∀ (n : Nat) (vs : List Value), vs.length = n → (∀ (j : Nat) (v : Value), vs[j]? = some v → ∃ t, v = Value.int (f j) t) → VReps V l h vs ((List.range n).map fun i => PV.int (f i))
  | 0, vs, hl, _ => by
    have : vs = [] := List.length_eq_zero_iff.mp hl
    subst this; exact .nil
  | n + 1, vs, hl, hv => by
    obtain ⟨v, hvn⟩ : ∃ v, vs[n]? = some v := ⟨_, List.getElem?_eq_getElem (by omega)⟩
    have e : vs = vs.take n ++ [v] := by
      have h1 := List.take_add_one (l := vs) (i := n)
      rw [hvn, List.take_of_length_le (by omega)] at h1
      simpa using h1
    rw [e, List.range_succ, List.map_append]
    refine VReps.append (itemsOf_vreps f n (vs.take n) (by simp; omega) fun j u hj => hv j u ?_) ?_
    · rw [List.getElem?_take] at hj
      split at hj
      · exact hj
      · cases hj
    · obtain ⟨t, rfl⟩ := hv n v hvn
      exact .cons (.int _ _) .nil

/-- list(range(..)) -/
theorem EvTN.listRange {f r : PySem.Str} {p p2 pos pos2 : Pos} {e : Expr} {rest : List Expr} {as : List PV} {a b c : Int} {n : Nat} (Gl : GNm W env f (.type "list")) (G : GNm W env r (.type "range")) (ha : EvL W d env σ (e :: rest) as)
    (he : starEach (e :: rest) env = (false, eval e env) :: starEach rest env) (hpl : (backTo pos2 (starEach rest env)).any (·.1) = false) (hc : RangeCall W as a b c)
    (hsm : Builtin.Range.small a b c = true) (hn : Builtin.Range.rangeSize a b c = (n : Int)) (hlen : n ≤ 2 ^ 24) (he2 : starEach [.Call (.Name r p2) (e :: rest) [] pos2] env = [(false, eval (.Call (.Name r p2) (e :: rest) [] pos2) env)] := by rfl) :
    EvN W d env σ (.Call (.Name f p) [.Call (.Name r p2) (e :: rest) [] pos2] [] pos) (.list (rangeL a c n)) := by
  intro g l V A s E hR hB hE
  refine wpAny_Call_NameR (Gl.load hB hE ?_)
  refine callWith_any (.inr (.inl ⟨_, rfl⟩)) (by rw [he2]; rfl) hB ?_
  rw [he2]
  refine Calls.evalArgs_plain (x := eval (.Call (.Name r p2) (e :: rest) [] pos2) env) (rest := []) (Calls.spliced_cons ?_)
  refine wpAny_Call_NameR (G.load hB hE ?_)
  refine callWith_any (.inr (.inl ⟨_, rfl⟩)) (by rw [he]; show (false || (backTo pos2 (starEach rest env)).any (·.1)) = false; rw [hpl]; rfl) hB ?_
  have hm := ha pos2 g l V A s E hR hB hE
  rw [he] at hm ⊢
  refine Calls.evalArgs_plain (x := eval e env) (rest := backTo pos2 (starEach rest env)) (wpAny_mono hm (fun vs s₁ q₁ => ?_) fun _ _ x => x)
  obtain ⟨l₁, e1, r1⟩ := q₁
  have hB₁ := hB.ext e1
  refine ⟨⟨_, e1⟩, hc _ _ _ _ r1 A s₁ E _ fun o t u v tk ho htk => Calls.spliced_nil ?_⟩
  subst ho
  have e2 : Ext W l₁ s₁ l₁ { s₁ with heap := s₁.heap.push { cls := .type "range", data := .fields #[.int a t, .int b u, .int c v] }, toks := tk } := (Ext0.push hB₁.ti).up hB₁.tok htk
  have e12 := e1.trans e2
  refine ⟨⟨l₁, e12⟩, wpAny_with_toks (Nat.le_refl _) (call_list_range hR.hd (IsRange.new _ _ _ _ _ _ _) hsm hn hlen fun h' tk2 acc' c' hk hnew hit htk2 => ?_)⟩
  have e3 : Ext W l₁ _ l₁ { s₁ with heap := h', toks := tk2 } := (Ext0.of_le (s := { s₁ with heap := s₁.heap.push { cls := .type "range", data := .fields #[.int a t, .int b u, .int c v] }, toks := tk }) e2.ti hk).up e2.tk htk2
  refine ⟨l₁, e12.trans e3, .list (vs := acc'.toList) (fresh_of_ext e12.toExt0 _ fresh_size) ⟨c', by simpa using hnew⟩ ?_⟩
  exact itemsOf_vreps (fun i => a + (i : Int) * c) n acc'.toList (by simpa using hit.1) fun j v hj => hit.2 j v (by simpa using hj)
end
end Mine

namespace Mine
local macro_rules | `(tactic| omega) => `(tactic| lia)
section
variable {W : Wd} {d : Nat} {env : Env} {σ : Loc}
theorem CallSp.lenS {l : List Nat} (h : l.length ≤ 1000) : CallSp W d (.builtin "len") [.str (S l)] (.int (l.length : Nat)) := by
  have := CallSp.lens (W := W) (d := d) (x := S l) (by rw [S_length]; omega)
  rwa [S_length] at this
theorem CallSp.lenN {xs : List PV} (h : xs.length ≤ 1000) : CallSp W d (.builtin "len") [.list xs] (.int (xs.length : Nat)) := CallSp.lenl (by omega)
noncomputable def intPV (l : List Int) : List PV := l.map PV.int
theorem intPV_imm (l : List Int) : ∀ y ∈ intPV l, y.imm = true := fun y hy => by obtain ⟨z, _, rfl⟩ := List.mem_map.mp hy; rfl
theorem intPV_length (l : List Int) : (intPV l).length = l.length := by simp [intPV]
theorem rangeL_int (a c : Int) (n : Nat) : rangeL a c n = intPV ((List.range n).map fun (i : Nat) => a + (i : Int) * c) := by simp [rangeL, intPV]
theorem intPV_get {l : List Int} {i : Nat} (h : i < l.length) : (intPV l)[((i : Nat) : Int).toNat]? = some (.int l[i]) := by simp [intPV, h]
theorem intPV_set (l : List Int) (i : Nat) (x : Int) : (intPV l).set ((i : Nat) : Int).toNat (.int x) = intPV (l.set i x) := by simp [intPV, List.map_set]
end
end Mine

namespace Mine
local macro_rules | `(tactic| omega) => `(tactic| lia)

section
variable {W : Wd} {d : Nat} {env : Env} {σ : Loc}

/-- a list display over things of one kind -/
theorem EvTN.compG {α : Type} {emb : α → PV} {inv : PV → α} (hinv : ∀ a, inv (emb a) = a) {elt iter : Expr} {x : PySem.Str} {px : Pos} {ifs : List Expr} {scope : Scope} {pos : Pos} {ks : List α} {p : α → Bool} {f : α → PV}
    (ok : compOk scope env [x] = true) (hi : EvI W d env σ iter (ks.map emb)) (hsz : ks.length ≤ 1000)
    (ht : ∀ C cl, ClOk scope env cl → ∀ k ∈ ks, EvTests W d (compEnvC scope cl C env) (compσ scope σ (one x (emb k))) ifs (p k))
    (he : ∀ C cl, ClOk scope env cl → ∀ k ∈ ks, p k = true → Ev W d (compEnvC scope cl C env) (compσ scope σ (one x (emb k))) elt (f k))
    (himm : ∀ k ∈ ks, p k = true → (f k).imm = true) (hfold : ∀ x, foldedSetIterable iter env x = pure x := by intro _; rfl) :
    EvN W d env σ (.ListComp elt [⟨.Name x px, iter, ifs, 0⟩] scope pos) (.list ((ks.filter p).map f)) := by
  have e : ((ks.map emb).filter fun y => p (inv y)).map (fun y => f (inv y)) = (ks.filter p).map f := by
    rw [List.filter_map, List.map_map]
    have h1 : ((fun y => p (inv y)) ∘ emb) = p := by funext a; simp [hinv]
    have h2 : ((fun y => f (inv y)) ∘ emb) = f := by funext a; simp [hinv]
    rw [h1, h2]
  rw [← e]
  refine EvTN.comp (CompOk.of ok) hi (by rw [List.length_map]; simp [sizeLine]; omega) (fun C cl hcl y hy => ?_) (fun C cl hcl y hy hp => ?_) (fun y hy hp => ?_) hfold
  · obtain ⟨k, hk, rfl⟩ := List.mem_map.mp hy
    rw [hinv]; exact ht C cl hcl k hk
  · obtain ⟨k, hk, rfl⟩ := List.mem_map.mp hy
    rw [hinv] at hp ⊢; exact he C cl hcl k hk hp
  · obtain ⟨k, hk, rfl⟩ := List.mem_map.mp hy
    rw [hinv] at hp ⊢; exact himm k hk hp

noncomputable def natEmb (k : Nat) : PV := .int (k : Int)
noncomputable def natInv : PV → Nat
  | .int i => i.toNat
  | _ => 0
noncomputable def intEmb (k : Int) : PV := .int k
noncomputable def intInv : PV → Int
  | .int i => i
  | _ => 0
noncomputable def strEmb (l : List Nat) : PV := .str (S l)
noncomputable def strInv : PV → List Nat
  | .str x => x.cps.toList
  | _ => []
noncomputable def strPV (ls : List (List Nat)) : List PV := ls.map strEmb
theorem strPV_imm (ls : List (List Nat)) : ∀ y ∈ strPV ls, y.imm = true := fun y hy => by obtain ⟨z, _, rfl⟩ := List.mem_map.mp hy; rfl
theorem strPV_length (ls : List (List Nat)) : (strPV ls).length = ls.length := by simp [strPV]
theorem strPV_strs (ls : List (List Nat)) : strPV ls = (ls.map S).map PV.str := by simp [strPV, strEmb]

/-- over counts -/
theorem EvTN.compN {elt iter : Expr} {x : PySem.Str} {px : Pos} {ifs : List Expr} {scope : Scope} {pos : Pos} {ks : List Nat} {p : Nat → Bool} {f : Nat → PV}
    (ok : compOk scope env [x] = true) (hi : EvI W d env σ iter (ks.map natEmb)) (hsz : ks.length ≤ 1000)
    (ht : ∀ C cl, ClOk scope env cl → ∀ k ∈ ks, EvTests W d (compEnvC scope cl C env) (compσ scope σ (one x (.int (k : Int)))) ifs (p k))
    (he : ∀ C cl, ClOk scope env cl → ∀ k ∈ ks, p k = true → Ev W d (compEnvC scope cl C env) (compσ scope σ (one x (.int (k : Int)))) elt (f k))
    (himm : ∀ k ∈ ks, p k = true → (f k).imm = true) (hfold : ∀ x, foldedSetIterable iter env x = pure x := by intro _; rfl) :
    EvN W d env σ (.ListComp elt [⟨.Name x px, iter, ifs, 0⟩] scope pos) (.list ((ks.filter p).map f)) :=
  EvTN.compG (inv := natInv) (fun a => by simp [natEmb, natInv]) ok hi hsz ht he himm hfold
/-- over texts -/
theorem EvTN.compS {elt iter : Expr} {x : PySem.Str} {px : Pos} {ifs : List Expr} {scope : Scope} {pos : Pos} {ks : List (List Nat)} {p : List Nat → Bool} {f : List Nat → PV}
    (ok : compOk scope env [x] = true) (hi : EvI W d env σ iter (strPV ks)) (hsz : ks.length ≤ 1000)
    (ht : ∀ C cl, ClOk scope env cl → ∀ k ∈ ks, EvTests W d (compEnvC scope cl C env) (compσ scope σ (one x (.str (S k)))) ifs (p k))
    (he : ∀ C cl, ClOk scope env cl → ∀ k ∈ ks, p k = true → Ev W d (compEnvC scope cl C env) (compσ scope σ (one x (.str (S k)))) elt (f k))
    (himm : ∀ k ∈ ks, p k = true → (f k).imm = true) (hfold : ∀ x, foldedSetIterable iter env x = pure x := by intro _; rfl) :
    EvN W d env σ (.ListComp elt [⟨.Name x px, iter, ifs, 0⟩] scope pos) (.list ((ks.filter p).map f)) :=
  EvTN.compG (emb := strEmb) (inv := strInv) (fun a => by simp [strEmb, strInv, S]) ok hi hsz ht he himm hfold
end
end Mine

namespace Mine
local macro_rules | `(tactic| omega) => `(tactic| lia)
/-- a display with two clauses, the second with tests -/
noncomputable abbrev comp2 (elt it0 it1 : Expr) (x z : PySem.Str) (px pz : Pos) (ifs : List Expr) (scope : Scope) (pos : Pos) : Expr := .ListComp elt [⟨.Name x px, it0, [], 0⟩, ⟨.Name z pz, it1, ifs, 0⟩] scope pos
noncomputable def two' (x z : PySem.Str) (y w : PV) : Loc := fun k => if k = z then some w else if k = x then some y else none

section
variable {elt it0 it1 : Expr} {x z : PySem.Str} {px pz : Pos} {ifs : List Expr} {scope : Scope} {pos : Pos} {it acc : Value} {env : Env}
theorem turn_in : compTurn (comp2 elt it0 it1 x z px pz ifs scope pos) 1 it acc env = (do
      standAt it1.pos
      match ← pyNext it with
      | none => pure (.done .next)
      | some v =>
        letOwnedTupleGo (.Name z pz) it v
        assign (.Name z pz) env v
        let mut ok := true
        for c in ifs do
          if ok then ok ← isTrue c env (eval c env)
        if ok then
          (do let _ ← call (.builtin "list.append") [acc, ← eval elt env])
        again (.compLoop (comp2 elt it0 it1 x z px pz ifs scope pos) 1 it acc env)) := by rfl
theorem turn_out : compTurn (comp2 elt it0 it1 x z px pz ifs scope pos) 0 it acc env = (do
      standAt it0.pos
      match ← pyNext it with
      | none => pure (.done .next)
      | some v =>
        letOwnedTupleGo (.Name x px) it v
        assign (.Name x px) env v
        let u ← eval it1 env
        standAt it1.pos
        let u ← foldedSetIterable it1 env u
        let _ ← runOwn (.compStart (comp2 elt it0 it1 x z px pz ifs scope pos) 1 (← holding [u] (pyIter u)) acc env) env
        again (.compLoop (comp2 elt it0 it1 x z px pz ifs scope pos) 0 it acc env)) := by rfl

variable {prog : Program} {w : World} {A : Around} {R : Result → Shared → Prop} {s : Shared}
theorem loop_in (I : Nat → Shared → Prop)
    (turn : ∀ n s, I n s → wpAny (model prog w) A (pyNext it) (fun r s₁ => match r with
      | none => R (.ok .next) s₁
      | some v => wpAny (model prog w) A (assign (.Name z pz) env v) (fun _ s₂ =>
          wpAny (model prog w) A (forIn ifs true fun c r => if r = true then do let ok ← isTrue c env (eval c env); pure (ForInStep.yield ok) else pure (ForInStep.yield r)) (fun ok s₃ =>
            if ok = true then wpAny (model prog w) A (eval elt env) (fun x s₄ =>
              wpAny (model prog w) A (call (.builtin "list.append") [acc, x]) (fun _ s₅ => ∃ m, m < n ∧ I m s₅) (notedBy (model prog w) A env fun e s' => R (.error e) s') s₄) (notedBy (model prog w) A env fun e s' => R (.error e) s') s₃
            else ∃ m, m < n ∧ I m s₃) (notedBy (model prog w) A env fun e s' => R (.error e) s') s₂) (notedBy (model prog w) A env fun e s' => R (.error e) s') s₁) (notedBy (model prog w) A env fun e s' => R (.error e) s') s)
    (n : Nat) (h : I n s) (ht : ∀ v, letOwnedTupleGo (.Name z pz) it v = pure () := by intro _; rfl) :
    codeAny (model prog w) A (.compLoop (comp2 elt it0 it1 x z px pz ifs scope pos) 1 it acc env) R s := by
  refine codeAny_loop rfl I (fun n s hI => ?_) n h
  show wpAny _ A ((compTurn (comp2 elt it0 it1 x z px pz ifs scope pos) 1 it acc env).onRaise (fun x => do noteFrame x env; theTreesLotGoes x)) _ _ s
  rw [turn_in]
  refine wpAny_noted (wpAny_bind (wpAny_standAt (wpAny_bind (wpAny_mono (turn n s hI) (fun r s₁ h₁ => ?_) fun _ _ q => q))))
  cases r with
  | none => exact wpAny_pure h₁
  | some v =>
    refine wpAny_bind (wpAny_of_eq (ht v) (wpAny_bind (wpAny_mono h₁ (fun _ s₂ h₂ => wpAny_bind (wpAny_mono h₂ (fun ok s₃ h₃ => ?_) fun _ _ q => q)) fun _ _ q => q)))
    cases ok with
    | false => exact wpAny_pure ⟨rfl, h₃⟩
    | true => exact wpAny_bind (wpAny_bind (wpAny_mono h₃ (fun x s₄ h₄ => wpAny_bind (wpAny_mono h₄ (fun _ s₅ h₅ => wpAny_pure (wpAny_pure ⟨rfl, h₅⟩)) fun _ _ q => q)) fun _ _ q => q))

theorem loop_out (I : Nat → Shared → Prop) (hs : ∀ u, foldedSetIterable it1 env u = pure u)
    (turn : ∀ n s, I n s → ∀ E : Value → Shared → Prop, wpAny (model prog w) A (pyNext it) (fun r s₁ => match r with
      | none => R (.ok .next) s₁
      | some v => wpAny (model prog w) A (assign (.Name x px) env v) (fun _ s₂ =>
          wpAny (model prog w) A (eval it1 env) (fun u s₃ => wpAny (model prog w) A (pyIter u) (fun it' s₄ => ∀ E' : Value → Shared → Prop,
            codeAny (model prog w) A (.compStart (comp2 elt it0 it1 x z px pz ifs scope pos) 1 it' acc env) (fun r s₅ => match r with | .ok _ => ∃ m, m < n ∧ I m s₅ | .error e => E' e s₅) s₄) E s₃) E s₂) E s₁) E s)
    (n : Nat) (h : I n s) (ht : ∀ v, letOwnedTupleGo (.Name x px) it v = pure () := by intro _; rfl) :
    codeAny (model prog w) A (.compLoop (comp2 elt it0 it1 x z px pz ifs scope pos) 0 it acc env) R s := by
  refine codeAny_loop rfl I (fun n s hI => ?_) n h
  show wpAny _ A ((compTurn (comp2 elt it0 it1 x z px pz ifs scope pos) 0 it acc env).onRaise (fun x => do noteFrame x env; theTreesLotGoes x)) _ _ s
  rw [turn_out]
  refine wpAny_noted (wpAny_bind (wpAny_standAt (wpAny_bind (wpAny_mono (turn n s hI _) (fun r s₁ h₁ => ?_) fun _ _ q => q))))
  cases r with
  | none => exact wpAny_pure h₁
  | some v =>
    refine wpAny_bind (wpAny_of_eq (ht v) (wpAny_bind (wpAny_mono h₁ (fun _ s₂ h₂ => ?_) fun _ _ q => q)))
    refine wpAny_bind (wpAny_mono h₂ (fun u s₃ h₃ => ?_) fun _ _ q => q)
    refine wpAny_bind (wpAny_standAt (wpAny_bind (wpAny_of_eq (hs u) ?_)))
    refine wpAny_bind (wpAny_holding (wpAny_mono h₃ (fun it' s₄ h₄ => ?_) fun _ _ q => q))
    refine wpAny_bind (wpAny_runOwn (h := none) (codeAny_mono (h₄ (cameBackBy (model prog w) A env (notedBy (model prog w) A env fun e s' => R (.error e) s'))) fun r s₅ h₅ => ?_))
    cases r with
    | ok f => exact wpAny_pure ⟨rfl, h₅⟩
    | error e => exact h₅

theorem start_in (h0 : codeAny (model prog w) A (.compLoop (comp2 elt it0 it1 x z px pz ifs scope pos) 1 it acc env) R s)
    (h : wpAny (model prog w) A (pyIter it) (fun it' s' => codeAny (model prog w) A (.compLoop (comp2 elt it0 it1 x z px pz ifs scope pos) 1 it' acc env) R s') (notedBy (model prog w) A env fun x s' => R (.error x) s') s) :
    codeAny (model prog w) A (.compStart (comp2 elt it0 it1 x z px pz ifs scope pos) 1 it acc env) R s := by
  refine codeAny_of_tree ?_
  show wpAny _ _ ((compStart (comp2 elt it0 it1 x z px pz ifs scope pos) 1 it acc env).onRaise (fun x => do noteFrame x env; standAt theWindowsPlace)) _ _ s
  refine wpAny_notedAt ?_
  unfold compStart
  show wpAny _ _ (ask >>= _) _ _ s
  refine wpAny_bind (wpAny_askSetting (wpAny_ite ?_))
  split
  · first
      | exact wpAny_bind (wpAny_pure (wpAny_pure (And.intro rfl h0)))
      | exact wpAny_pure (And.intro rfl h0)
  · refine wpAny_bind (wpAny_rule ?_)
    show wpAny _ _ (standAt it1.pos >>= _) _ _ s
    exact wpAny_bind (wpAny_standAt (wpAny_bind (wpAny_mono h (fun it' s' h' => wpAny_pure (And.intro rfl h')) fun _ _ x => x)))
end

theorem CompSt.butNew {W : Wd} {s₃ s : Shared} {l₃ l : Lab} {ex : List Addr} {a : Addr} {h' : Heap} {tk : Nat} (x : CompSt W s₃ l₃ ex l s) (ha : Fresh s₃ a) (hs : ∀ b o, b ≠ a → s.heap.get? b = some o → h'.get? b = some o) (ti : W.TI h') (htk : s.toks ≤ tk) : CompSt W s₃ l₃ ex l { s with heap := h', toks := tk } := by
  obtain ⟨h1, t1, e1⟩ := x.same
  refine ⟨⟨h', tk, by rw [e1]⟩, fun b o hb hx e => hs b o (fun q => ?_) (x.keep b o hb hx e), ti, x.ll, x.tk.up htk⟩
  subst q
  rw [show s₃.heap.get? b = none from ha] at e; cases e

section
variable {W : Wd} {d : Nat} {env : Env} {σ : Loc}
theorem inner_turns {elt it0 it1 : Expr} {x z : PySem.Str} {px pz : Pos} {ifs : List Expr} {scope : Scope} {pos : Pos} {cl : List (PySem.Str × Addr)} {p : PV → Bool} {f : PV → PV} {y : PV} {vx : Value} {zs xs0 : List PV}
    {g : Heap} {V : Addr → Prop} {A : Around} {I D C J : Addr} {l₂ l₃ : Lab} {s₂ s₃ : Shared} {fp : List Addr} {n : Nat} {P : Nat → Value → Prop} {St : Nat → Heap → Prop} {R : Result → Shared → Prop} {m : PySem.Str → Option Value} {ys0 : Array Value} {K : Heap → Prop}
    (hR : Rm d A) (hB : Base W g l₂ s₂) (hE : EnvOk env σ V l₂ s₂.heap) (ok : CompOk scope env [x, z]) (hcl : ClOk scope env cl) (hxz : x ≠ z)
    (ht : ∀ u ∈ zs, EvTests W d (compEnvC scope cl C env) (compσ scope σ (two' x z y u)) ifs (p u))
    (he : ∀ u ∈ zs, p u = true → Ev W d (compEnvC scope cl C env) (compσ scope σ (two' x z y u)) elt (f u))
    (himm : ∀ u ∈ zs, p u = true → (f u).imm = true)
    (hex : ∀ a ∈ [I, D, C], g.get? a = none) (hex2 : ∀ a ∈ [I, D, C], s₂.heap.get? a = none ∨ ∃ o vs, s₂.heap.get? a = some o ∧ o.data = .fields vs)
    (hDC : D ≠ C)
    (hI : Walks W.prog W.w A J fp [J] n P St) (hlen : n = zs.length) (live : ∀ i h, St i h → ∃ o vs, h.get? J = some o ∧ NotCode o ∧ o.data = .fields vs) (hfpt : ∀ b ∈ fp, b ∉ W.tabs) (hfD : D ∉ fp) (hfC : C ∉ fp)
    (hJ : Fresh s₂ J) (hJD : J ≠ D) (hJC : J ≠ C) (hK : ∀ h h', K h → (∀ b o, b ≠ J → b ≠ D → b ≠ C → b ∉ W.tabs → h.get? b = some o → h'.get? b = some o) → K h')
    (h3 : CompSt W s₂ l₂ [I, D, C] l₃ s₃) (hzi : ∀ u ∈ zs, u.imm = true) (hyi : y.imm = true) (item : ∀ i v u, P i v → zs[i]? = some u → VRep (fun _ => False) l₃ s₃.heap v u) (hst : St 0 s₃.heap) (hD3 : s₃.heap.PlainList D ys0)
    (hys0 : VReps (fun _ => False) l₃ s₃.heap ys0.toList xs0) (hsz : xs0.length + zs.length ≤ sizeLine) (hC3 : s₃.heap.Ns C m) (hmx : m x = some vx) (hvx : VRep (fun _ => False) l₃ s₃.heap vx y) (hK3 : K s₃.heap)
    (hQ : ∀ l s' ys m', CompSt W s₂ l₂ [I, D, C] l s' → LLe l₃ l → s'.heap.PlainList D ys → VReps (fun _ => False) l s'.heap ys.toList (xs0 ++ (zs.filter p).map f) → s'.heap.Ns C m' → K s'.heap → R (.ok .next) s') :
    codeAny W.M A (.compLoop (comp2 elt it0 it1 x z px pz ifs scope pos) 1 (.ref J) (.ref D) (compEnvC scope cl C env)) R s₃ := by
  refine loop_in (fun k s' => ∃ i l ys m', k = n + 1 - i ∧ i ≤ n ∧ CompSt W s₂ l₂ [I, D, C] l s' ∧ LLe l₃ l ∧ St i s'.heap ∧ s'.heap.PlainList D ys ∧
      VReps (fun _ => False) l s'.heap ys.toList (xs0 ++ ((zs.take i).filter p).map f) ∧ s'.heap.Ns C m' ∧ m' x = some vx ∧ K s'.heap) ?_ (n + 1) ⟨0, l₃, ys0, m, rfl, Nat.zero_le _, h3, fun _ _ q => q, hst, hD3, by simpa using hys0, hC3, hmx, hK3⟩
  rintro k s' ⟨i, l, ys, m', rfl, hin, hc, hll, hst', hD', hys, hC', hmx', hK'⟩
  rcases Nat.lt_or_ge i n with hlt | hge
  · refine wpAny_with_toks (Nat.le_refl _) (hI.item i s' _ _ hlt hst' fun v h₁ tk₁ hP hst₁ hk₁ htk₁ => ?_)
    have hxi : i < zs.length := by rw [← hlen]; exact hlt
    obtain ⟨u, hu⟩ : ∃ u, zs[i]? = some u := ⟨_, List.getElem?_eq_getElem hxi⟩
    have hum : u ∈ zs := List.mem_of_getElem? hu
    obtain ⟨oI, _, hoI, hnI, _⟩ := live i _ hst'
    have hb1 : Heap.ExtBut J s'.heap h₁ := fun b o hb e => hk₁ b o (by simpa using hb) e
    have hc₁ : CompSt W s₂ l₂ [I, D, C] l { s' with heap := h₁, toks := tk₁ } := hc.butNew hJ (fun b o hb e => hb1 b o hb e) (W.ti_but hoI hnI hb1 hc.ti) htk₁
    have hC₁ : h₁.Ns C m' := hC'.at' fun o e => hb1 C o (Ne.symm hJC) e
    refine wpAny_assign_Name (wpAny_storeName_local (lookup_relabel_local (ok.hx z (by simp))) hC₁ (fun h₂ hn₂ hs₂ => ?_) (by simp [compEnvC, relabel, ok.kind]))
    obtain ⟨oC, esC, epC, hoC, hdC, _⟩ := id hC₁
    have hc₂ : CompSt W s₂ l₂ [I, D, C] l { s' with heap := h₂, toks := tk₁ + 1 } := hc₁.but (a := C) (by simp) (fun b o hb e => hs₂.extBut b o hb e) (W.ti_but hoC (notCode_dict hdC) hs₂.extBut hc₁.ti) (Nat.le_succ _)
    have hB₂ := hc₂.base hB hex
    have ri : ∀ {v : Value} {u : PV} {h : Heap}, u.imm = true → VRep (fun _ => False) l₃ s₃.heap v u → VRep V l h v u := fun {v u h} hi r => (r.mono (h' := h) (fun _ q => q) hll fun a o q => q.elim).of_imm hi
    have hE₂ : EnvOk (compEnvC scope cl C env) (compσ scope σ (two' x z y u)) V l h₂ := (hc₂.envOk hB.ti hE hex2).comp ok hcl hn₂ fun w pv hw => by
      unfold two' at hw
      split at hw
      · rename_i hwz; subst hwz; cases hw
        exact ⟨by simp, v, by simp, ri (hzi _ hum) (item i v u hP hu)⟩
      · split at hw
        · rename_i hnz hwx; subst hwx; cases hw
          exact ⟨by simp, vx, by simp [hnz, hmx'], ri hyi hvx⟩
        · cases hw
    have hst₂ : St (i + 1) h₂ := hI.frame _ _ _ hst₁ fun b hb o e => hs₂.extBut b o (fun q => hfC ((show b = C from q) ▸ hb)) e
    have hD₂ : h₂.PlainList D ys := (hD'.extBut hb1 (Ne.symm hJD)).extBut hs₂.extBut hDC
    have hK₂ : K h₂ := hK _ _ hK' fun b o q1 q2 q3 _ e => hs₂.extBut b o q3 (hb1 b o q1 e)
    have hys₂ : VReps (fun _ => False) l h₂ ys.toList (xs0 ++ ((zs.take i).filter p).map f) := hys.mono (fun _ q => q) (fun _ _ q => q) fun a o q => q.elim
    refine wpAny_mono (ht u hum g l V A _ _ hR hB₂ hE₂) (fun b s₃ q₃ => ?_) fun _ _ q => q
    obtain ⟨l₄, e₃, rfl⟩ := q₃
    have stI : ∀ {l₅ : Lab} {s₄ : Shared}, Ext W l { s' with heap := h₂, toks := tk₁ + 1 } l₅ s₄ → St (i + 1) s₄.heap := fun e => hI.frame _ _ _ hst₂ fun b hb o q => e.keep b o (hfpt b hb) q
    have stD : ∀ {l₅ : Lab} {s₄ : Shared}, Ext W l { s' with heap := h₂, toks := tk₁ + 1 } l₅ s₄ → s₄.heap.PlainList D ys := fun {l₅ s₄} e => by
      obtain ⟨nn, q⟩ := hD₂
      exact ⟨nn, e.keep D _ (seq_notab hB₂.ti q ⟨_, _, rfl⟩) q⟩
    have stC : ∀ {l₅ : Lab} {s₄ : Shared}, Ext W l { s' with heap := h₂, toks := tk₁ + 1 } l₅ s₄ → s₄.heap.Ns C _ := fun e => ns_ext hn₂ hB₂.ti e.toExt0
    have stK : ∀ {l₅ : Lab} {s₄ : Shared}, Ext W l { s' with heap := h₂, toks := tk₁ + 1 } l₅ s₄ → K s₄.heap := fun e => hK _ _ hK₂ fun b o _ _ _ q4 q => e.keep b o q4 q
    have mx : (fun w => if w = z then some v else m' w) x = some vx := by simp [hxz, hmx']
    cases hp : p u with
    | false =>
      simp only [Bool.false_eq_true, if_false]
      refine ⟨n + 1 - (i + 1), by omega, i + 1, l₄, ys, _, rfl, hlt, hc₂.step e₃, fun t q r => e₃.ll t q (hll t q r), stI e₃, stD e₃, ?_, stC e₃, mx, stK e₃⟩
      rw [take_succ_filter p _ i u hu, hp]
      simpa using hys₂.ext hB₂.ti e₃ fun _ q => q
    | true =>
      simp only [if_true]
      have hB₃ := hB₂.ext e₃
      refine wpAny_mono (he u hum hp g l₄ V A s₃ _ hR hB₃ (hE₂.ext hB₂.ti e₃)) (fun w s₄ q₄ => ?_) fun _ _ q => q
      obtain ⟨l₅, e₄, r₄⟩ := q₄
      have e₂₄ := e₃.trans e₄
      have hl : ys.size ≤ sizeLine := by
        have e1 := hys.length
        have e2 : ((zs.take i).filter p).length ≤ (zs.take i).length := List.length_filter_le _ _
        have e3 : (zs.take i).length ≤ zs.length := by rw [List.length_take]; omega
        simp only [List.length_append, List.length_map, Array.length_toList] at e1
        omega
      refine wpAny_list_append_plain (hsz := hl) (stD e₂₄) fun h₅ hl₅ hs₅ => ?_
      have hc₄ := hc₂.step e₂₄
      obtain ⟨nn, hoD⟩ := stD e₂₄
      have tiD := W.ti_but hoD (notCode_seq rfl) hs₅.extBut hc₄.ti
      refine ⟨n + 1 - (i + 1), by omega, i + 1, l₅, ys.push w, _, rfl, hlt, hc₄.but (a := D) (tk := s₄.toks) (by simp) (fun b o hb e => hs₅.extBut b o hb e) tiD (Nat.le_refl _), fun t q r => e₂₄.ll t q (hll t q r), ?_, hl₅, ?_, (stC e₂₄).sameBut hs₅ (Ne.symm hDC), mx, ?_⟩
      · exact hI.frame _ _ _ (stI e₂₄) fun b hb o e => hs₅.extBut b o (fun q => hfD (q ▸ hb)) e
      · rw [take_succ_filter p _ i u hu, hp]
        simp only [if_true, List.map_append, List.map_cons, List.map_nil, Array.toList_push]
        rw [← List.append_assoc]
        refine VReps.append ?_ (.cons (r₄.of_imm (himm u hum hp)) .nil)
        exact (hys₂.ext hB₂.ti e₂₄ fun _ q => q).mono (fun _ q => q) (fun _ _ q => q) fun a o q => q.elim
      · exact hK _ _ (stK e₂₄) fun b o _ q2 _ _ e => hs₅.extBut b o q2 e
  · have hi : i = n := Nat.le_antisymm hin hge
    subst hi
    refine wpAny_with_toks (Nat.le_refl _) (hI.done s' _ _ hst' fun h₁ tk₁ hk₁ htk₁ => ?_)
    obtain ⟨oI, _, hoI, hnI, _⟩ := live i _ hst'
    have hb1 : Heap.ExtBut J s'.heap h₁ := fun b o hb e => hk₁ b o (by simpa using hb) e
    have hc₁ : CompSt W s₂ l₂ [I, D, C] l { s' with heap := h₁, toks := tk₁ } := hc.butNew hJ (fun b o hb e => hb1 b o hb e) (W.ti_but hoI hnI hb1 hc.ti) htk₁
    refine hQ l _ ys m' hc₁ hll (hD'.extBut hb1 (Ne.symm hJD)) ?_ (hC'.at' fun o e => hb1 C o (Ne.symm hJC) e) (hK _ _ hK' fun b o q1 _ _ _ e => hb1 b o q1 e)
    have ht' : zs.take i = zs := List.take_of_length_le (by rw [hlen]; exact Nat.le_refl _)
    rw [ht'] at hys
    exact hys.mono (fun _ q => q) (fun _ _ q => q) fun a o q => q.elim

theorem EnvOk.ex {V : Addr → Prop} {l : Lab} {h : Heap} (x : EnvOk env σ V l h) : EnvOk env σ (fun a => V a ∧ ∃ o, h.get? a = some o) l h :=
  ⟨x.fn, fun y pv e => let ⟨v, r, q⟩ := x.names y pv e; ⟨v, r, q.ex.wid fun a ⟨h1, o, h2, _⟩ => ⟨h1, o, h2⟩⟩⟩

theorem outer_turns {elt it0 it1 : Expr} {x z : PySem.Str} {px pz : Pos} {ifs : List Expr} {scope : Scope} {pos : Pos} {cl : List (PySem.Str × Addr)} {p : PV → PV → Bool} {f : PV → PV → PV} {xs zs : List PV}
    {g : Heap} {V : Addr → Prop} {A : Around} {I D C : Addr} {l₂ l₃ : Lab} {s0 s₂ s₃ : Shared} {fp : List Addr} {n : Nat} {P : Nat → Value → Prop} {St : Nat → Heap → Prop} {R : Result → Shared → Prop} {m : PySem.Str → Option Value}
    (hR : Rm d A) (hB : Base W g l₂ s₂) (hE : EnvOk env σ V l₂ s₂.heap) (hI : IterAt W A I xs V s0 l₂ s₂ fp n P St) (hgI : g.get? I = none)
    (ok : CompOk scope env [x, z]) (hcl : ClOk scope env cl) (hxz : x ≠ z) (hxi : ∀ y ∈ xs, y.imm = true) (hzi : ∀ u ∈ zs, u.imm = true) (hsz : xs.length * zs.length ≤ sizeLine)
    (hj : ∀ y ∈ xs, EvI W d (compEnvC scope cl C env) (compσ scope σ (one x y)) it1 zs)
    (ht : ∀ y ∈ xs, ∀ u ∈ zs, EvTests W d (compEnvC scope cl C env) (compσ scope σ (two' x z y u)) ifs (p y u))
    (he : ∀ y ∈ xs, ∀ u ∈ zs, p y u = true → Ev W d (compEnvC scope cl C env) (compσ scope σ (two' x z y u)) elt (f y u))
    (himm : ∀ y ∈ xs, ∀ u ∈ zs, p y u = true → (f y u).imm = true)
    (hs : ∀ u, foldedSetIterable it1 (compEnvC scope cl C env) u = pure u)
    (hD : Fresh s₂ D) (hC : Fresh s₂ C) (hDC : D ≠ C)
    (h3 : CompSt W s₂ l₂ [I, D, C] l₃ s₃) (hst : St 0 s₃.heap) (hD3 : s₃.heap.PlainList D #[]) (hC3 : s₃.heap.Ns C m)
    (hQ : ∀ l s' ys m', CompSt W s₂ l₂ [I, D, C] l s' → s'.heap.PlainList D ys → VReps (fun _ => False) l s'.heap ys.toList (xs.flatMap fun y => (zs.filter (p y)).map (f y)) → s'.heap.Ns C m' → R (.ok .next) s') :
    codeAny W.M A (.compLoop (comp2 elt it0 it1 x z px pz ifs scope pos) 0 (.ref I) (.ref D) (compEnvC scope cl C env)) R s₃ := by
  have gnone : ∀ {a}, Fresh s₂ a → g.get? a = none := fun {a} ha => by
    cases q : g.get? a with
    | none => rfl
    | some o => have := hB.le _ _ q; rw [show s₂.heap.get? a = none from ha] at this; cases this
  obtain ⟨io, ivs, hio, _, hid⟩ := hI.live 0 _ hI.st
  have old : ∀ b ∈ fp, b = I ∨ ∃ o, s₂.heap.get? b = some o := fun b hb => by
    obtain ⟨_, _, q3⟩ := hI.fp b hb
    rcases q3 with q3 | ⟨_, its, k, q3⟩
    · exact .inl q3
    · exact .inr ⟨_, q3⟩
  have new : ∀ {a}, Fresh s₂ a → I ≠ a ∧ a ∉ fp := fun {a} ha => by
    have h1 : I ≠ a := fun q => by rw [q, show s₂.heap.get? a = none from ha] at hio; cases hio
    refine ⟨h1, fun hm => ?_⟩
    rcases old a hm with q | ⟨o, q⟩
    · exact h1 q.symm
    · rw [show s₂.heap.get? a = none from ha] at q; cases q
  have hfpI : ∀ b ∈ fp, b ∉ W.tabs := fun b hb => (hI.fp b hb).2.1
  have hex : ∀ a ∈ [I, D, C], g.get? a = none := fun a ha => by simp at ha; rcases ha with rfl | rfl | rfl; exact hgI; exact gnone hD; exact gnone hC
  have hex2 : ∀ a ∈ [I, D, C], s₂.heap.get? a = none ∨ ∃ o vs, s₂.heap.get? a = some o ∧ o.data = .fields vs := fun a ha => by
    simp at ha
    rcases ha with rfl | rfl | rfl
    · exact .inr ⟨_, _, hio, hid⟩
    · exact .inl hD
    · exact .inl hC
  refine loop_out (fun k s' => ∃ i l ys m', k = n + 1 - i ∧ i ≤ n ∧ CompSt W s₂ l₂ [I, D, C] l s' ∧ St i s'.heap ∧ s'.heap.PlainList D ys ∧
      VReps (fun _ => False) l s'.heap ys.toList ((xs.take i).flatMap fun y => (zs.filter (p y)).map (f y)) ∧ s'.heap.Ns C m') hs ?_ (n + 1) ⟨0, l₃, #[], m, rfl, Nat.zero_le _, h3, hst, hD3, by simpa using VReps.nil, hC3⟩
  rintro k s' ⟨i, l, ys, m', rfl, hin, hc, hst', hD', hys, hC'⟩ E
  obtain ⟨oI, _, hoI, hnI, _⟩ := hI.live i _ hst'
  rcases Nat.lt_or_ge i n with hlt | hge
  · refine wpAny_with_toks (Nat.le_refl _) (hI.walk.item i s' _ _ hlt hst' fun v h₁ tk₁ hP hst₁ hk₁ htk₁ => ?_)
    have hxi' : i < xs.length := by rw [← hI.len]; exact hlt
    obtain ⟨y, hy⟩ : ∃ y, xs[i]? = some y := ⟨_, List.getElem?_eq_getElem hxi'⟩
    have hym : y ∈ xs := List.mem_of_getElem? hy
    have hb1 : Heap.ExtBut I s'.heap h₁ := fun b o hb e => hk₁ b o (by simpa using hb) e
    have hc₁ : CompSt W s₂ l₂ [I, D, C] l { s' with heap := h₁, toks := tk₁ } := hc.but (by simp) (fun b o hb e => hb1 b o hb e) (W.ti_but hoI hnI hb1 hc.ti) htk₁
    have hC₁ : h₁.Ns C m' := hC'.at' fun o e => hb1 C o (Ne.symm (new hC).1) e
    refine wpAny_assign_Name (wpAny_storeName_local (lookup_relabel_local (ok.hx x (by simp))) hC₁ (fun h₂ hn₂ hs₂ => ?_) (by simp [compEnvC, relabel, ok.kind]))
    obtain ⟨oC, esC, epC, hoC, hdC, _⟩ := id hC₁
    have hc₂ : CompSt W s₂ l₂ [I, D, C] l { s' with heap := h₂, toks := tk₁ + 1 } := hc₁.but (a := C) (by simp) (fun b o hb e => hs₂.extBut b o hb e) (W.ti_but hoC (notCode_dict hdC) hs₂.extBut hc₁.ti) (Nat.le_succ _)
    have hB₂ := hc₂.base hB hex
    have r0 : VRep (fun _ => False) l₂ s₂.heap v y := (hI.item i v y hP hy).of_imm (hxi y hym)
    have rv : ∀ {l' : Lab} {h : Heap}, LLe l₂ l' → VRep (fun _ => False) l' h v y := fun {l' h} ll => r0.mono (h' := h) (fun _ q => q) ll fun a o q => q.elim
    have hE₂ : EnvOk (compEnvC scope cl C env) (compσ scope σ (one x y)) (fun a => V a ∧ ∃ o, s₂.heap.get? a = some o) l h₂ := (hc₂.envOk hB.ti hE.ex hex2).comp ok hcl hn₂ fun w pv hw => by
      unfold one at hw
      split at hw
      · rename_i hwx; subst hwx; cases hw
        exact ⟨by simp, v, by simp, (rv hc₂.ll).wid fun _ q => q.elim⟩
      · cases hw
    have hst₂ : St (i + 1) h₂ := hI.walk.frame _ _ _ hst₁ fun b hb o e => hs₂.extBut b o (fun q => (new hC).2 ((show b = C from q) ▸ hb)) e
    have hD₂ : h₂.PlainList D ys := (hD'.extBut hb1 (Ne.symm (new hD).1)).extBut hs₂.extBut hDC
    have hys₂ : VReps (fun _ => False) l h₂ ys.toList ((xs.take i).flatMap fun y => (zs.filter (p y)).map (f y)) := hys.mono (fun _ q => q) (fun _ _ q => q) fun a o q => q.elim
    refine wpAny_mono (hj y hym g l _ A _ _ hR hB₂ hE₂) (fun u s₃ q₃ => wpAny_mono q₃ (fun it' s₄ q₄ E' => ?_) fun _ _ q => q) fun _ _ q => q
    obtain ⟨l₄, e₄, J, fpj, nj, Pj, Stj, rfl, hJ⟩ := q₄
    have hB₄ := hB₂.ext e₄
    have hc₄ := hc₂.step e₄
    obtain ⟨nn, hoD⟩ := hD₂
    have hD₄ : s₄.heap.PlainList D ys := ⟨nn, e₄.keep D _ (seq_notab hB₂.ti hoD ⟨_, _, rfl⟩) hoD⟩
    have hC₄ : s₄.heap.Ns C _ := ns_ext hn₂ hB₂.ti e₄.toExt0
    have hJf : h₂.get? J = none := hJ.fresh
    obtain ⟨oC2, _, _, hoC2, _⟩ := id hn₂
    have hoC2 : h₂.get? C = some oC2 := hoC2
    have hJD : J ≠ D := fun q => by rw [q, hoD] at hJf; cases hJf
    have hJC : J ≠ C := fun q => by rw [q, hoC2] at hJf; cases hJf
    obtain ⟨oI2, _, hoI2, _, _⟩ := hI.live _ _ hst₂
    have hJI : J ≠ I := fun q => by rw [q, hoI2] at hJf; cases hJf
    have hJt : J ∉ W.tabs := fun hm => by
      obtain ⟨ps, e⟩ := W.ti_tab hc₂.ti J hm
      rw [show ({ s' with heap := h₂, toks := tk₁ + 1 } : Shared).heap.get? J = none from hJf] at e; cases e
    have hJ2 : Fresh s₂ J := by
      show s₂.heap.get? J = none
      cases q : s₂.heap.get? J with
      | none => rfl
      | some o =>
        have := hc₂.keep J o hJt (by simp [hJI, hJD, hJC]) q
        rw [show ({ s' with heap := h₂, toks := tk₁ + 1 } : Shared).heap.get? J = none from hJf] at this; cases this
    have nfp : ∀ {a o}, h₂.get? a = some o → Fresh s₂ a → J ≠ a → a ∉ fpj := fun {a o} ho hf hne hm => by
      obtain ⟨_, _, q⟩ := hJ.fp a hm
      rcases q with q | ⟨q, _⟩
      · exact hne q.symm
      · rcases q with ⟨_, o', q⟩ | q
        · rw [show s₂.heap.get? a = none from hf] at q; cases q
        · rw [show h₂.get? a = none from q] at ho; cases ho
    have hlen : ((xs.take i).flatMap fun y => (zs.filter (p y)).map (f y)).length + zs.length ≤ sizeLine := by
      have : ∀ ls : List PV, (ls.flatMap fun y => (zs.filter (p y)).map (f y)).length ≤ ls.length * zs.length := fun ls => by
        induction ls with
        | nil => simp
        | cons a ls ih =>
          rw [List.flatMap_cons, List.length_append, List.length_map, List.length_cons, Nat.succ_mul]
          have := List.length_filter_le (p a) zs
          omega
      have h1 := this (xs.take i)
      have h2 : (xs.take i).length = i := by rw [List.length_take]; omega
      rw [h2] at h1
      have h3 : (i + 1) * zs.length ≤ xs.length * zs.length := Nat.mul_le_mul_right _ hxi'
      rw [Nat.succ_mul] at h3
      omega
    have inner : ∀ R' : Result → Shared → Prop, (∀ l s' ys' m'', CompSt W s₂ l₂ [I, D, C] l s' → s'.heap.PlainList D ys' → VReps (fun _ => False) l s'.heap ys'.toList (((xs.take i).flatMap fun y => (zs.filter (p y)).map (f y)) ++ (zs.filter (p y)).map (f y)) → s'.heap.Ns C m'' → St (i + 1) s'.heap → R' (.ok .next) s') →
        codeAny W.M A (.compLoop (comp2 elt it0 it1 x z px pz ifs scope pos) 1 (.ref J) (.ref D) (compEnvC scope cl C env)) R' s₄ := fun R' hq =>
      inner_turns (K := fun h => St (i + 1) h) (vx := v) (y := y) (p := p y) (f := f y) hR hB hE ok hcl hxz (ht y hym) (he y hym) (himm y hym) hex hex2 hDC hJ.walk hJ.len hJ.live (fun b hb => (hJ.fp b hb).2.1) (nfp hoD hD hJD) (nfp hoC2 hC hJC) hJ2 hJD hJC
        (fun h h' hk q => hI.walk.frame _ _ _ hk fun b hb o e => q b o (fun r => (new hJ2).2 (r ▸ hb)) (fun r => (new hD).2 (r ▸ hb)) (fun r => (new hC).2 (r ▸ hb)) (hfpI b hb) e)
        hc₄ hzi (hxi y hym) (fun j w u hP hu => (hJ.item j w u hP hu).of_imm (hzi u (List.mem_of_getElem? hu))) hJ.st hD₄ (hys₂.ext hB₂.ti e₄ fun _ q => q) hlen hC₄ (by simp) (rv hc₄.ll)
        (hI.walk.frame _ _ _ hst₂ fun b hb o q => e₄.keep b o (hfpI b hb) q) (fun l s' ys' m'' q1 _ q2 q3 q4 q5 => hq l s' ys' m'' q1 q2 q3 q4 q5)
    have fin : ∀ R' : Result → Shared → Prop, (∀ s', (∃ m, m < n + 1 - i ∧ ∃ i l ys m', m = n + 1 - i ∧ i ≤ n ∧ CompSt W s₂ l₂ [I, D, C] l s' ∧ St i s'.heap ∧ s'.heap.PlainList D ys ∧
      VReps (fun _ => False) l s'.heap ys.toList ((xs.take i).flatMap fun y => (zs.filter (p y)).map (f y)) ∧ s'.heap.Ns C m') → R' (.ok .next) s') → codeAny W.M A (.compLoop (comp2 elt it0 it1 x z px pz ifs scope pos) 1 (.ref J) (.ref D) (compEnvC scope cl C env)) R' s₄ := fun R' hq =>
      inner R' fun l s' ys' m'' q1 q2 q3 q4 q5 => hq s' ⟨n + 1 - (i + 1), by omega, i + 1, l, ys', m'', rfl, hlt, q1, q5, q2, by
        rw [List.take_add_one, hy, List.flatMap_append]
        simpa using q3, q4⟩
    exact start_in (fin _ fun s' q => q) (hJ.walk.self 0 _ _ _ hJ.st (fin _ fun s' q => q))
  · have hi : i = n := Nat.le_antisymm hin hge
    subst hi
    refine wpAny_with_toks (Nat.le_refl _) (hI.walk.done s' _ _ hst' fun h₁ tk₁ hk₁ htk₁ => ?_)
    have hb1 : Heap.ExtBut I s'.heap h₁ := fun b o hb e => hk₁ b o (by simpa using hb) e
    have hc₁ : CompSt W s₂ l₂ [I, D, C] l { s' with heap := h₁, toks := tk₁ } := hc.but (by simp) (fun b o hb e => hb1 b o hb e) (W.ti_but hoI hnI hb1 hc.ti) htk₁
    refine hQ l _ ys m' hc₁ (hD'.extBut hb1 (Ne.symm (new hD).1)) ?_ (hC'.at' fun o e => hb1 C o (Ne.symm (new hC).1) e)
    have ht' : xs.take i = xs := List.take_of_length_le (by rw [hI.len]; exact Nat.le_refl _)
    rw [ht'] at hys
    exact hys.mono (fun _ q => q) (fun _ _ q => q) fun a o q => q.elim

/-- a list display with two clauses -/
theorem EvTN.twoFor {elt it0 it1 : Expr} {x z : PySem.Str} {px pz : Pos} {ifs : List Expr} {scope : Scope} {pos : Pos} {p : PV → PV → Bool} {f : PV → PV → PV} {xs zs : List PV}
    (ok : compOk scope env [x, z] = true) (hi : EvI W d env σ it0 xs) (hxi : ∀ y ∈ xs, y.imm = true) (hzi : ∀ u ∈ zs, u.imm = true) (hsz : xs.length * zs.length ≤ sizeLine)
    (hj : ∀ C cl, ClOk scope env cl → ∀ y ∈ xs, EvI W d (compEnvC scope cl C env) (compσ scope σ (one x y)) it1 zs)
    (ht : ∀ C cl, ClOk scope env cl → ∀ y ∈ xs, ∀ u ∈ zs, EvTests W d (compEnvC scope cl C env) (compσ scope σ (two' x z y u)) ifs (p y u))
    (he : ∀ C cl, ClOk scope env cl → ∀ y ∈ xs, ∀ u ∈ zs, p y u = true → Ev W d (compEnvC scope cl C env) (compσ scope σ (two' x z y u)) elt (f y u))
    (himm : ∀ y ∈ xs, ∀ u ∈ zs, p y u = true → (f y u).imm = true) (hxz : (x == z) = false := by rfl)
    (hfold : ∀ x, foldedSetIterable it0 env x = pure x := by intro _; rfl) (hs : ∀ C cl u, foldedSetIterable it1 (compEnvC scope cl C env) u = pure u := by intro _ _ _; rfl) :
    EvN W d env σ (comp2 elt it0 it1 x z px pz ifs scope pos) (.list (xs.flatMap fun y => (zs.filter (p y)).map (f y))) := by
  intro g l V A s E hR hB hE
  have ok := CompOk.of ok
  have hxz : x ≠ z := by simpa using hxz
  obtain ⟨cl, hcl, hclo, _⟩ := closure_ok ok.free
  rw [eval_ListComp]
  refine wpAny_comprehension_free rfl hfold hcl ok.kind ok.names ?_
  refine wpAny_mono (hi g l V A s E hR hB hE) (fun v s₁ q₁ => wpAny_mono q₁ (fun it s₂ q₂ => ?_) fun _ _ q => q) fun _ _ q => q
  obtain ⟨l₂, e₂, I, fp, n, P, St, rfl, hI⟩ := q₂
  have hB₂ := hB.ext e₂
  have hgI : g.get? I = none := by
    cases q : g.get? I with
    | none => rfl
    | some o => have := hB.le _ _ q; rw [hI.fresh] at this; cases this
  have hE₂ : EnvOk env σ (fun a => V a ∨ Fresh s a) l₂ s₂.heap := (hE.ext hB.ti e₂).wid fun _ q => .inl q
  refine wpAny_newObj_type (wpAny_newFunctionEnv ok.cell (by intro y hy; simp at hy) (fun h₁ hns₁ hsb₁ => ?_) ok.kind)
  dsimp only at hns₁ hsb₁ ⊢
  generalize hH2 : s₂.heap.push { cls := .type "list", dict := none, data := .seq ([] : List Value).toArray } = H2 at hns₁ hsb₁ ⊢
  have hC : H2.objs.size = s₂.heap.objs.size + 1 := by rw [← hH2, Heap.size_push]
  have hDC : s₂.heap.objs.size ≠ H2.objs.size := by rw [hC]; exact Nat.ne_of_lt (Nat.lt_succ_self _)
  have old : HLe s₂.heap h₁ := fun b o e => hsb₁.extBut b o (by rw [hC]; exact Nat.ne_of_lt (Nat.lt_succ_of_lt (Heap.lt_size e))) (Heap.get?_push_of_some _ (hH2 ▸ Heap.get?_push_of_some _ e))
  have hacc : h₁.PlainList s₂.heap.objs.size #[] := ⟨_, hsb₁.extBut _ _ hDC (Heap.get?_push_of_some _ (hH2 ▸ Heap.get?_push_size _ rfl))⟩
  have hst₁ : St 0 h₁ := hI.walk.frame _ _ _ hI.st fun b _ o e => old b o e
  have hDf : Fresh s₂ s₂.heap.objs.size := fresh_size
  have hCf : Fresh s₂ H2.objs.size := Heap.get?_none_of_le (by rw [hC]; exact Nat.le_succ _)
  have hex : ∀ a ∈ [I, s₂.heap.objs.size, H2.objs.size], Fresh s a := fun a ha => by
    simp at ha
    rcases ha with rfl | rfl | rfl
    · exact hI.fresh
    · exact fresh_of_ext e₂.toExt0 _ hDf
    · exact fresh_of_ext e₂.toExt0 _ hCf
  have loop : ∀ s₃ : Shared, s₃ = { s₂ with heap := h₁, toks := s₂.toks + ([] : List (PySem.Str × Value)).length } →
      codeAny W.M A (.compLoop (comp2 elt it0 it1 x z px pz ifs scope pos) 0 (.ref I) (.ref s₂.heap.objs.size) (compEnvC scope cl H2.objs.size env))
        (compPost W.M A E none (fun v s' => ∃ l', Ext W l s l' s' ∧ VRep (Fresh s) l' s'.heap v (.list (xs.flatMap fun y => (zs.filter (p y)).map (f y)))) (.ref s₂.heap.objs.size) H2.objs.size) s₃ := by
    rintro s₃ rfl
    refine outer_turns (m := fun _ => none) hR hB₂ hE₂ hI hgI ok hclo hxz hxi hzi hsz (hj _ cl hclo) (ht _ cl hclo) (he _ cl hclo) himm (hs _ cl) hDf hCf hDC ⟨⟨h₁, _, rfl⟩, fun b o _ _ e => old b o e, W.ti_le old hB₂.ti, fun _ _ e => e, hB₂.tok.up (Nat.le_add_right _ _)⟩ hst₁ hacc hns₁ fun l' s' ys m' hc hl hys hn => ?_
    refine ⟨m', hn, fun h' hsb => ?_⟩
    obtain ⟨oC, esC, epC, hoC, hdC, _⟩ := id hn
    have hc' : CompSt W s₂ l₂ [I, s₂.heap.objs.size, H2.objs.size] l' { s' with heap := h' } := hc.but (a := H2.objs.size) (tk := s'.toks) (by simp) (fun b o hb e => hsb.extBut b o hb e) (W.ti_but hoC (notCode_dict hdC) hsb.extBut hc.ti) (Nat.le_refl _)
    refine ⟨l', e₂.thenComp hc' hex, .list (vs := ys.toList) (hex s₂.heap.objs.size (by simp)) (by simpa using hl.extBut hsb.extBut hDC) ?_⟩
    exact (hys.mono (fun _ q => q) (fun _ _ q => q) fun a o q => q.elim).wid fun _ q => q.elim
  exact codeAny_compStart_list (loop _ rfl) (hI.walk.self 0 _ _ _ hst₁ (loop _ rfl))
end
end Mine

namespace Mine
local macro_rules | `(tactic| omega) => `(tactic| lia)
section
variable {W : Wd} {d : Nat} {env : Env} {σ : Loc} {Γ : Ctx} {O : List PySem.Str} {ω : PySem.Str → Addr} {g : Heap} {l0 l l' : Lab} {s0 s s' : Shared}
/-- a dict that no frame sees is changed -/
theorem Fm.aside (F : Fm W env σ O ω g l0 s0 l s) {C : Addr} {m : PySem.Str → Option Value} {h' : Heap} (hn : s.heap.Ns C m) (hC0 : Fresh s0 C) (hl : C ≠ env.locals) (hs : Heap.SameBut C s.heap h') :
    Fm W env σ O ω g l0 s0 l { s with heap := h' } := by
  obtain ⟨oC, esC, epC, hoC, hdC, _⟩ := id hn
  have hb : ∀ o, s.heap.get? C = some o → ¬ ∃ its n, o.data = .seq its n := fun o e => by rw [hoC] at e; cases e; rintro ⟨_, _, q⟩; rw [hdC] at q; cases q
  have hcell : ∀ {c v}, s.heap.IsCell c v → c ≠ C := fun {c v} h => by
    obtain ⟨o, q1, q2⟩ := id h
    exact ne_of_kind q1 hoC (by rw [q2, hdC]; intro q; cases q)
  have hti : W.TI h' := W.ti_but hoC (notCode_dict hdC) hs.extBut F.ti
  have hr : ∀ {x v}, Reads1 env s.heap x v → Reads1 env h' x v := fun {x v} r => by
    cases r with
    | loc h1 h2 h3 => exact .loc h1 (h2.sameBut hs (Ne.symm hl)) h3
    | cell h1 h2 h3 => exact .cell h1 h2 (h3.sameBut hs (hcell h3))
  obtain ⟨h1, t1, e1⟩ := F.ext.same
  refine ⟨F.base0, ⟨⟨⟨h', s.toks, by rw [e1]⟩, fun b o hb' e => hs.extBut b o (fun q => ?_) (F.ext.keep b o hb' e), hti⟩, F.ext.ll, F.ext.tk.up (Nat.le_refl _)⟩, F.fn, F.lf, ?_, fun x hx => ?_, F.cinj, fun x pv hx hO => ?_, fun x hx => ?_, F.oinj⟩
  · subst q; rw [show s0.heap.get? b = none from hC0] at e; cases e
  · obtain ⟨m', q⟩ := F.ns; exact ⟨m', q.sameBut hs (Ne.symm hl)⟩
  · obtain ⟨c, v, q1, q2, q3⟩ := F.cell x hx; exact ⟨c, v, q1, q2.sameBut hs (hcell q2), q3⟩
  · obtain ⟨v, q1, q2⟩ := F.val x pv hx hO; exact ⟨v, hr q1, Fm.pokeVal hs hb q2⟩
  · obtain ⟨xs, vs, q1, q2, ⟨n, q3⟩, q4, q5⟩ := F.own x hx
    exact ⟨xs, vs, q1, hr q2, ⟨n, hs.extBut _ _ (fun q => hb _ (q ▸ q3) ⟨_, _, rfl⟩) q3⟩, Fm.pokeVals hs hb q4, q5⟩

/-- a name of the frame gets a list display: the block's names are let go after the store -/
theorem Ex.assignComp {x y : PySem.Str} {p py pos pos' : Pos} {elt iter : Expr} {ifs : List Expr} {scope : Scope} {rest : List Stmt} {xs : List PV} {q : PV → Bool} {f : PV → PV} {Γ' : Ctx} {N : Ctx → List PySem.Str → Prop} {R : PV → Prop}
    (ok : compOk scope env [y] = true) (hi : EvI W d env Γ.loc iter xs) (hsz : xs.length ≤ sizeLine)
    (ht : ∀ C cl, ClOk scope env cl → ∀ v ∈ xs, EvTests W d (compEnvC scope cl C env) (compσ scope Γ.loc (one y v)) ifs (q v))
    (he : ∀ C cl, ClOk scope env cl → ∀ v ∈ xs, q v = true → Ev W d (compEnvC scope cl C env) (compσ scope Γ.loc (one y v)) elt (f v))
    (himm : ∀ v ∈ xs, q v = true → (f v).imm = true) (hx : x ∉ O) (hk : env.kindOf x = some .local ∨ env.kindOf x = some .cell)
    (hu : Upd x (.list ((xs.filter q).map f)) Γ Γ') (hr : Ex W d env Γ' O rest N R)
    (hfold : ∀ x, foldedSetIterable iter env x = pure x := by intro _; rfl)
    (hs : swapsWith (.ListComp elt [⟨.Name y py, iter, ifs, 0⟩] scope pos') (some (.Name x p)) pos.line env = pure true := by rfl) :
    Ex W d env Γ O (.Assign [.Name x p] (.ListComp elt [⟨.Name y py, iter, ifs, 0⟩] scope pos') pos :: rest) N R := fun ω g l0 s0 l A s E hR F => by
  have ok := CompOk.of ok
  obtain ⟨cl, hcl, hclo, _⟩ := closure_ok ok.free
  have body : wpAny W.M A (evalThenUse (.ListComp elt [⟨.Name y py, iter, ifs, 0⟩] scope pos') env (PySem.assign (.Name x p) env)) (fun _ s₃ => ∃ l₁, Stp W (Mut env O ω) l s l₁ s₃ ∧ Fm W env Γ'.loc O ω g l0 s0 l₁ s₃) E s := by
    rw [arm_evalThenUse_ListComp]
    refine wpAny_hm (wpAny_bind (wpAny_comprehension_free rfl hfold hcl ok.kind ok.names ?_))
    have hB := F.base
    have hE := F.envOk
    refine wpAny_mono (hi g l _ A s E hR hB hE) (fun v s₁ q₁ => wpAny_mono q₁ (fun it s₂ q₂ => ?_) fun _ _ q => q) fun _ _ q => q
    obtain ⟨l₂, e₂, I, fp, n, P, St, rfl, hI⟩ := q₂
    have hB₂ := hB.ext e₂
    have hgI : g.get? I = none := by
      cases q : g.get? I with
      | none => rfl
      | some o => have := hB.le _ _ q; rw [hI.fresh] at this; cases this
    refine comp_block (V := fun a => True ∨ Fresh s a) hR hB₂ ((hE.ext hB.ti e₂).wid fun _ _ => .inl trivial) hI hgI ok hclo hsz (fun C => ht C cl hclo) (fun C => he C cl hclo) himm fun D C l' s' ys m' hD hC hDC hc hl hys hn => ?_
    have hex : ∀ a ∈ [I, D, C], Fresh s a := fun a ha => by
      simp at ha
      rcases ha with rfl | rfl | rfl
      · exact hI.fresh
      · exact fresh_of_ext e₂.toExt0 _ hD
      · exact fresh_of_ext e₂.toExt0 _ hC
    have e := e₂.thenComp hc hex
    have F₁ := F.step e
    have hval : VRep (NotOwn O ω) l' s'.heap (.ref D) (.list ((xs.filter q).map f)) := .list (vs := ys.toList) (F.freshNot (hex D (by simp))) (by simpa using hl) (hys.wid fun _ q => q.elim)
    obtain ⟨mL, hmL⟩ := F.ns
    obtain ⟨oL, _, _, hoL, _⟩ := id hmL
    have hCL : C ≠ env.locals := fun q => by
      have h1 : s.heap.get? C = none := hex C (by simp)
      rw [q, hoL] at h1; cases h1
    have hC0 : Fresh s0 C := fresh_of_ext F.ext.toExt0 _ (hex C (by simp))
    refine wpAny_assign_Name (F₁.store hx hk hval fun s₃ st F₃ => ?_)
    obtain ⟨oC, esC, epC, hoC, hdC, hrC⟩ := id hn
    have hnt : C ∉ W.tabs := dict_notab hc.ti hn
    have hnm : ¬ Mut env O ω C := fun hm => by
      have h1 := F₁.mutFresh hm
      rcases hm with h | ⟨x', h1', h2⟩ | ⟨y', h1', h2⟩
      · exact hCL h
      · obtain ⟨c, v, q1, q2, q3⟩ := F.cell x' h1'
        rw [h2] at q1; cases q1
        obtain ⟨o, q2, _⟩ := q2
        rw [show s.heap.get? C = none from hex C (by simp)] at q2; cases q2
      · obtain ⟨_, _, _, _, ⟨k, q3⟩, _⟩ := F.own y' h1'
        rw [← h2, show s.heap.get? C = none from hex C (by simp)] at q3; cases q3
    have hn₃ : s₃.heap.Ns C m' := ⟨oC, esC, epC, st.keep C oC hnt hnm hoC, hdC, hrC⟩
    refine ⟨m', hn₃, fun h' hsb => wpAny_pure fun hm => ?_⟩
    have F₄ := F₃.aside hn₃ hC0 hCL hsb
    rw [← hu.loc] at F₄
    obtain ⟨h1, t1, e1⟩ := e.same
    obtain ⟨h2, t2, e2⟩ := st.same
    refine ⟨l', ⟨⟨h', t2, by rw [e2, e1]⟩, fun b o hb hnb ho => hsb.extBut b o (fun q => ?_) (st.keep b o hb hnb (e.keep b o hb ho)), hm, F₄.ti, e.ll, F₄.tk⟩, F₄⟩
    subst q
    rw [show s.heap.get? b = none from hex b (by simp)] at ho; cases ho
  refine wpAny_execs_cons ?_
  rw [exec_Assign_Name_used _ _ _ _ hs]
  refine wpAny_bind (wpAny_standAt (wpAny_bind (wpAny_mono body (fun _ s₃ q₃ => wpAny_pure ?_) fun _ _ q => q)))
  obtain ⟨l₁, st, F₁⟩ := q₃
  exact wpAny_mono (hr ω g l0 s0 l₁ A s₃ E hR F₁) (fun f s' q' => q'.thread st Grow.refl) fun _ _ q => q
end
end Mine

namespace Mine
local macro_rules | `(tactic| omega) => `(tactic| lia)
noncomputable abbrev strLe (a b : PySem.Str) : Prop := a.cps.toList ≤ b.cps.toList
theorem rising_all : ∀ (l : List PySem.Str) (p : PySem.Str), risingS p l = true → (∀ x ∈ l, strLe p x) ∧ l.Pairwise strLe
  | [], _, _ => ⟨fun _ h => (by cases h), .nil⟩
  | y :: l, p, h => by
    have h' : (!PySem.Spec.ltCps y.cps.toList p.cps.toList && risingS y l) = true := h
    rw [Bool.and_eq_true, Bool.not_eq_true', PyProof.Rows.ltCps_eq, decide_eq_false_iff_not] at h'
    obtain ⟨i1, i2⟩ := rising_all l y h'.2
    have hpy : strLe p y := h'.1
    exact ⟨fun x hx => by
      rcases List.mem_cons.mp hx with rfl | hx
      · exact hpy
      · exact List.le_trans hpy (i1 x hx), .cons i1 i2⟩
theorem sortedS_all : ∀ {l : List PySem.Str}, sortedS l = true → l.Pairwise strLe
  | [], _ => .nil
  | x :: l, h => let ⟨a, b⟩ := rising_all l x h; .cons a b
theorem sorted_one {a b : List PySem.Str} (ha : sortedS a = true) (hb : sortedS b = true) (hp : a.Perm b) : a = b :=
  List.Perm.eq_of_pairwise (le := strLe) (fun x y _ _ h1 h2 => by
    obtain ⟨x⟩ := x; obtain ⟨y⟩ := y
    have : x.toList = y.toList := List.le_antisymm h1 h2
    rw [Array.toList_inj.mp this]) (sortedS_all ha) (sortedS_all hb) hp
open Classical in
/-- the sorted texts -/
noncomputable def sortT (ss : List PySem.Str) : List PySem.Str := if h : ∃ ss' : List PySem.Str, ss'.Perm ss ∧ sortedS ss' = true then h.choose else []
theorem sortT_eq {ss ss' : List PySem.Str} (hp : ss'.Perm ss) (hs : sortedS ss' = true) : sortT ss = ss' := by
  have h : ∃ ss' : List PySem.Str, ss'.Perm ss ∧ sortedS ss' = true := ⟨ss', hp, hs⟩
  unfold sortT
  rw [dif_pos h]
  exact sorted_one h.choose_spec.2 hs (h.choose_spec.1.trans hp.symm)
theorem sortT_perm {ss tt : List PySem.Str} (hp : ss.Perm tt) : sortT ss = sortT tt := by
  by_cases h : ∃ ss' : List PySem.Str, ss'.Perm ss ∧ sortedS ss' = true
  · obtain ⟨ss', h1, h2⟩ := h
    rw [sortT_eq h1 h2, sortT_eq (h1.trans hp) h2]
  · have h' : ¬ ∃ ss' : List PySem.Str, ss'.Perm tt ∧ sortedS ss' = true := fun ⟨ss', h1, h2⟩ => h ⟨ss', h1.trans hp.symm, h2⟩
    unfold sortT; rw [dif_neg h, dif_neg h']

theorem canLay_strs : ∀ ns : List PySem.Str, (∀ x ∈ ns, PyData.strOk x = true) → PyData.canLayAll0 (ns.map .str) = true
  | [], _ => rfl
  | n :: ns, h => by simp [PyData.canLayAll0, PyData.canLay0, canLay_strs ns fun x hx => h x (.tail _ hx), h n (.head _)]
theorem depth_strs : ∀ ns : List PySem.Str, PyData.depth (.list (ns.map .str)) ≤ 2 := by
  intro ns
  induction ns with
  | nil => simp [PyData.depth, PyData.depthAll]
  | cons n ns ih => simp [PyData.depth, PyData.depthAll] at ih ⊢; omega

section
variable {W : Wd} {d : Nat}
theorem Op2.neStrs {ns ms : List PySem.Str} (h1 : ∀ x ∈ ns, PyData.strOk x = true) (h2 : ∀ x ∈ ms, PyData.strOk x = true) : Op2 W d (compareOp .NotEq) (.list (ns.map .str)) (.list (ms.map .str)) (.bool (!(ns == ms))) := by
  have h := Op2.neD (W := W) (d := d) (a := .list (ns.map .str)) (b := .list (ms.map .str)) (by simp [PV.toD, toDs_strs, PyData.canLay0, canLay_strs ns h1]) (by simp [PV.toD, toDs_strs, PyData.canLay0, canLay_strs ms h2]) (by simp only [PV.toD, toDs_strs]; have := depth_strs ns; omega)
  simp only [PV.toD, toDs_strs, PyData.eqv, eqv_strs] at h
  exact h

theorem VReps.strsOf {V : Addr → Prop} {l : Lab} {h : Heap} : ∀ {vs : List Value} {ss : List PySem.Str}, StrsAre vs ss → (∀ v ∈ vs, ∃ x, VRep V l h v (.str x)) → VReps V l h vs (ss.map .str)
  | _, _, .nil, _ => .nil
  | _, _, .cons y t hs, hm => by
    obtain ⟨x, r⟩ := hm _ (.head _)
    cases r with
    | str _ _ e => exact .cons (.str y t e) (VReps.strsOf hs fun v hv => hm v (.tail _ hv))
theorem VReps.strMem {V : Addr → Prop} {l : Lab} {h : Heap} : ∀ {vs : List Value} {ss : List PySem.Str}, VReps V l h vs (ss.map .str) → ∀ v ∈ vs, ∃ x, VRep V l h v (.str x)
  | _, [], .nil, _, hv => by cases hv
  | _, s :: ss, .cons hr hs, v, hv => by
    rcases List.mem_cons.mp hv with rfl | hv
    · exact ⟨s, hr⟩
    · exact VReps.strMem hs v hv

theorem CallSp.sortedStrs {ss : List PySem.Str} (h64 : ss.length < 64) : CallSp W d (.builtin "sorted") [.list (ss.map .str)] (.list ((sortT ss).map .str)) := by
  intro g l V A s E vs hR hB hv
  cases hv with
  | cons h1 h2 =>
    cases h2
    cases h1 with
    | @list a us _ ha hp hs =>
      have hS : StrsAre us ss := hs.strs
      have hl : us.length < 64 := by have := hs.length; rw [List.length_map] at this; omega
      refine sortedK strKind_oneLt hp.isList hS.keysOf (fun v₁ v₂ rest e => keyKind_strs (by rw [← e]; exact hS)) hl fun st' hpm hso => ?_
      obtain ⟨ss', q1, q2, q3⟩ := sorted_out_str hS hpm hso
      rw [sortT_eq q2 q3]
      obtain ⟨e, he⟩ := sortedAll_at s.heap us ((arrOf st').map (·.2))
      have hx : Ext W l s l { s with heap := sortedAll s.heap us ((arrOf st').map (·.2)) } := (Ext0.of_le hB.ti fun b o q => sortedAll_old q).up hB.tok (Nat.le_refl _)
      refine ⟨l, hx, .list (vs := ((arrOf st').map (·.2)).toList) ?_ ⟨e, by rw [Array.toArray_toList]; exact he⟩ (VReps.strsOf q1 fun v hv => ?_)⟩
      · exact Heap.get?_none_of_le (Nat.le_succ _)
      · have hm : v ∈ us := by
          rw [Array.toList_map] at hv
          obtain ⟨p, hp1, rfl⟩ := List.mem_map.mp hv
          have h2 : p ∈ us.zip us := by
            rw [← pairsOf_toList]
            exact (Array.perm_iff_toList_perm.mp hpm).mem_iff.mp hp1
          obtain ⟨h3, h4⟩ := mem_zip_self h2
          rw [← h3]; exact h4
        obtain ⟨x, r⟩ := VReps.strMem hs v hm
        exact ⟨x, ((r.of_imm rfl : VRep (fun _ => False) l s.heap v (.str x)).mono (fun _ q => q) (fun _ _ q => q) fun a o q => q.elim).wid fun _ q => q.elim⟩
end
end Mine

namespace Mine
local macro_rules | `(tactic| omega) => `(tactic| lia)
theorem clip_nat {n k : Nat} (h : k ≤ n) : clipAt n (k : Int) = k := by
  unfold clipAt
  split <;> omega
theorem pickL_take {α : Type} {xs : List α} {k : Nat} (h : k ≤ xs.length) : pickL xs none (some (k : Int)) none = xs.take k := by
  have := pickL_nat (xs := xs) (lo := none) (hi := some (k : Int)) (st := none) (a := 0) (b := k) (Nat.zero_le _) h (by rw [sliceBounds_plain]; simp [clip_nat h])
  unfold pickL
  rw [this]; simp
theorem pickL_drop {α : Type} {xs : List α} {k : Nat} (h : k ≤ xs.length) : pickL xs (some (k : Int)) none none = xs.drop k := by
  have := pickL_nat (xs := xs) (lo := some (k : Int)) (hi := none) (st := none) (a := k) (b := xs.length) h (Nat.le_refl _) (by rw [sliceBounds_plain]; simp [clip_nat h])
  unfold pickL
  rw [this]; exact List.take_of_length_le (by simp)
theorem sortT_mem {ss : List PySem.Str} {x : PySem.Str} (h : x ∈ sortT ss) : x ∈ ss := by
  unfold sortT at h
  split at h
  · rename_i hx; exact hx.choose_spec.1.mem_iff.mp h
  · cases h
end Mine

namespace Mine
local macro_rules | `(tactic| omega) => `(tactic| lia)

theorem md_get : Slot "method_descriptor" "__get__" "method_descriptor.__get__" :=
  .of (owner := "method_descriptor") (n := "__get__") (by rw [typeLookup_type, builtinLookup_eq_fast]; kernel_rfl) (by decide +kernel) (by decide +kernel) (by decide +kernel)
    (by first | exact .inl (by decide +kernel) | exact .inr (by decide +kernel)) (by rw [isSubtype_type]; kernel_rfl)
theorem md_set : typeLookup (.type "method_descriptor") "__set__" = pure none := by rw [typeLookup_type, builtinLookup_eq_fast]; kernel_rfl
theorem md_del : typeLookup (.type "method_descriptor") "__delete__" = pure none := by rw [typeLookup_type, builtinLookup_eq_fast]; kernel_rfl
theorem md_entry : entryFor table "method_descriptor.__get__" = some Builtin.«method_descriptor.__get__» := entryFor_of_tree (by kernel_rfl)
theorem md_args (a b c : Value) : argsOk "method_descriptor.__get__" ⟨[a, b, c], []⟩ := by unfold argsOk; kernel_rfl
theorem li_lookup : typeLookup (.type "list") "__getitem__" = pure (some (.builtin "list.__getitem__")) := by rw [typeLookup_type, builtinLookup_eq_fast]; kernel_rfl
theorem li_owner : (".".intercalate ("list.__getitem__".cutAt '.').dropLast) = "list" := by
  have e0 : "list.__getitem__".cutAt '.' = ["list", "__getitem__"] := by first | rfl | decide +kernel
  rw [e0]; decide +kernel
theorem li_sub : isSubtype (.type "list") (.type (".".intercalate ("list.__getitem__".cutAt '.').dropLast)) = pure true := by
  rw [li_owner, isSubtype_type]; kernel_rfl

section
variable {prog : Program} {w : World} {A : Around} {E : Value → Shared → Prop} {h : Heap} {g : Array GenState} {d : Drawn} {t : Nat} {os : OsState} {a : Addr} {o : Obj}

noncomputable abbrev bmObj (a : Addr) : Obj := { cls := .type "builtin_function_or_method", data := .fields #[.builtin "list.__getitem__", .ref a] }

theorem bm_get {R : Result → Shared → Prop} (hx : h.get? a = some o) (hc : o.cls = .type "list") (hq : R (.ok (.ret (.ref h.objs.size))) ⟨h.push (bmObj a), g, d, t, os⟩) :
    codeAny (model prog w) A (.call (.builtin "method_descriptor.__get__") ⟨[.builtin "list.__getitem__", .ref a, .type "list"], []⟩) R ⟨h, g, d, t, os⟩ := by
  have hT : (⟨h, g, d, t, os⟩ : Shared).TypeIs (.ref a) "list" := ⟨_, hx, hc⟩
  have hT5 : (⟨h, g, d, t, os⟩ : Shared).TypeIs (.builtin "list.__getitem__") "method_descriptor" := F.type_list_getitem
  have f8 := li_sub
  refine codeAny_call_builtin md_get.plain md_entry (md_get.check _ _ _ _ _ _ _ _ hT5 (md_args _ _ _) ?_)
  unfold Builtin.«method_descriptor.__get__»
  repeat (any_goals (first | assumption | wp_step))

theorem bm_entry {xs : Array Value} {k : Nat} {sl : Array (Option Value)} {tk : Tok} {Q : Fin → Shared → Prop} (hx : h.get? a = some { cls := .type "list", dict := none, data := .seq xs k, slots := sl }) (hq : Q (.done (.ret (.ref h.objs.size))) ⟨h.push (bmObj a), g, d, t, os⟩) :
    wpAny (model prog w) A (Builtin.«object.__getattribute__» ⟨[.ref a, .str "__getitem__" tk], []⟩) Q E ⟨h, g, d, t, os⟩ := by
  have hT : (⟨h, g, d, t, os⟩ : Shared).TypeIs (.ref a) "list" := ⟨_, hx, rfl⟩
  have hT5 : (⟨h, g, d, t, os⟩ : Shared).TypeIs (.builtin "list.__getitem__") "method_descriptor" := F.type_list_getitem
  have f4 := li_lookup
  have f5 := F.type_list_getitem
  have f6 := md_get.lookup
  have f7 := md_set
  have f8 := md_del
  unfold Builtin.«object.__getattribute__»
  repeat (any_goals (first | assumption | wp_step))
  refine bm_get hx rfl ?_
  repeat (any_goals (first | assumption | wp_step))

theorem bm_call {xs : Array Value} {k : Nat} {sl : Array (Option Value)} {tk : Tok} {R : Result → Shared → Prop} (hx : h.get? a = some { cls := .type "list", dict := none, data := .seq xs k, slots := sl }) (hq : R (.ok (.ret (.ref h.objs.size))) ⟨h.push (bmObj a), g, d, t, os⟩) :
    codeAny (model prog w) A (.call (.builtin "list.__getattribute__") ⟨[.ref a, .str "__getitem__" tk], []⟩) R ⟨h, g, d, t, os⟩ :=
  codeAny_call_builtin F.slot_list_getattribute.plain F.entry_list_ga (F.slot_list_getattribute.check _ _ _ _ _ _ _ _ (show (⟨h, g, d, t, os⟩ : Shared).TypeIs (.ref a) "list" from ⟨_, hx, rfl⟩) (F.args_list_getattribute_2 _ _) (bm_entry hx hq))

theorem bm_by {xs : Array Value} {k : Nat} {sl : Array (Option Value)} {tk : Tok} {Q : Value → Shared → Prop} (hx : h.get? a = some { cls := .type "list", dict := none, data := .seq xs k, slots := sl }) (hq : Q (.ref h.objs.size) ⟨h.push (bmObj a), g, d, t, os⟩) : wpAny (model prog w) A (getAttrBy (.ref a) (.str "__getitem__" tk) false) Q E ⟨h, g, d, t, os⟩ := by
  have hT : (⟨h, g, d, t, os⟩ : Shared).TypeIs (.ref a) "list" := ⟨_, hx, rfl⟩
  have f2 := F.slot_list_getattribute.lookup
  have f3 := F.slot_list_getattribute.bind (.ref a)
  repeat (any_goals (first | assumption | wp_step))
  refine bm_call hx ?_
  repeat (any_goals (first | assumption | wp_step))

theorem bm_attr {xs : Array Value} {k : Nat} {sl : Array (Option Value)} {tk : Tok} {Q : Option Value → Shared → Prop} (hx : h.get? a = some { cls := .type "list", dict := none, data := .seq xs k, slots := sl }) (hq : Q (some (.ref h.objs.size)) ⟨h.push (bmObj a), g, d, t, os⟩) : wpAny (model prog w) A (getAttrBy? (.ref a) (.str "__getitem__" tk)) Q E ⟨h, g, d, t, os⟩ := by
  unfold getAttrBy?
  repeat (any_goals (first | assumption | with_reducible apply bm_by hx | wp_step))

theorem kind_hasattr : builtinKind "hasattr" = none := by first | rfl | decide +kernel
theorem plain_hasattr : plainId "hasattr" = true := by decide +kernel
theorem entry_hasattr : entryFor table "hasattr" = some Builtin.«hasattr» := entryFor_of_tree (by kernel_rfl)
theorem args_hasattr (a b : Value) : argsOk "hasattr" ⟨[a, b], []⟩ := by unfold argsOk; kernel_rfl
theorem mod_sub : isSubtype (.type "list") (.type "module") = pure false := by rw [isSubtype_type]; kernel_rfl
theorem wo_data : (withoutEnding? "list.__getitem__" "#data").isSome = false := by decide +kernel
theorem la_lookup : typeLookup (.type "list") "__getattribute__" = pure (some (.builtin "list.__getattribute__")) := F.slot_list_getattribute.lookup

theorem call_hasattr {xs : Array Value} {k : Nat} {sl : Array (Option Value)} {tk : Tok} {Q : Value → Shared → Prop} (hx : h.get? a = some { cls := .type "list", dict := none, data := .seq xs k, slots := sl }) (hq : Q (.bool true) ⟨h.push (bmObj a), g, d, t, os⟩) :
    wpAny (model prog w) A (call (.builtin "hasattr") [.ref a, .str "__getitem__" tk]) Q E ⟨h, g, d, t, os⟩ := by
  refine Calls.call_function_entry kind_hasattr plain_hasattr entry_hasattr (args_hasattr _ _) ?_
  have hT : (⟨h, g, d, t, os⟩ : Shared).TypeIs (.ref a) "list" := ⟨_, hx, rfl⟩
  have hT' : typeOf (.type "list") = pure (.type "type") := by kernel_rfl
  have f1 := li_lookup
  have f2 := la_lookup
  have f3 := mod_sub
  have f4 := wo_data
  unfold Builtin.«hasattr»
  repeat (any_goals (first | assumption | with_reducible apply bm_attr hx | wp_step))
  exact ⟨_, rfl, hq⟩
end

theorem CallSp.hasGet {W : Wd} {d : Nat} {xs : List PV} : CallSp W d (.builtin "hasattr") [.list xs, .str "__getitem__"] (.bool true) := by
  intro g l V A s E vs hR hB hv
  cases hv with
  | cons h1 h2 =>
    cases h2 with
    | cons h2 h3 =>
      cases h3
      cases h1 with
      | list ha hp hs =>
        cases h2 with
        | str x t e =>
          obtain ⟨n, ho⟩ := hp
          obtain ⟨hh, gg, dd, tt, os⟩ := s
          exact call_hasattr ho ⟨l, Ext.push hB.ti hB.tok, .bool true⟩
end Mine

namespace Mine
local macro_rules | `(tactic| omega) => `(tactic| lia)
structure FnAt (a : Addr) where
  fd : FuncData
  body : List Stmt
  loc : ∀ P, ∃ o, (pre.heap_1 P).lookup a = some o ∧ o.data = .func fd
  hbody : fd.body = .stmts body
  code : ∀ P, codeIn (pre.heap_1 P) fd.code fd.qualname = true
  clo : fd.closure = []
  co : fd.scope.isCoroutine = false
  gen : fd.scope.isGenerator = false
  kind : fd.scope.kind = .function
  gl : fd.globals = mainGlobals
  bu : fd.builtins = builtinsNs
noncomputable def fnSubst : FnAt 21 := ⟨_, _, fun P => ⟨_, rfl, rfl⟩, rfl, fun P => rfl, rfl, rfl, rfl, rfl, rfl, rfl⟩
noncomputable def fnLev : FnAt 28 := ⟨_, _, fun P => ⟨_, rfl, rfl⟩, rfl, fun P => rfl, rfl, rfl, rfl, rfl, rfl, rfl⟩
noncomputable def fnDiv2 : FnAt 35 := ⟨_, _, fun P => ⟨_, rfl, rfl⟩, rfl, fun P => rfl, rfl, rfl, rfl, rfl, rfl, rfl⟩
noncomputable def fnDiv3 : FnAt 42 := ⟨_, _, fun P => ⟨_, rfl, rfl⟩, rfl, fun P => rfl, rfl, rfl, rfl, rfl, rfl, rfl⟩
noncomputable def fnI2d : FnAt 49 := ⟨_, _, fun P => ⟨_, rfl, rfl⟩, rfl, fun P => rfl, rfl, rfl, rfl, rfl, rfl, rfl⟩
noncomputable def fnD2i : FnAt 56 := ⟨_, _, fun P => ⟨_, rfl, rfl⟩, rfl, fun P => rfl, rfl, rfl, rfl, rfl, rfl, rfl⟩
noncomputable def fnDmp : FnAt 63 := ⟨_, _, fun P => ⟨_, rfl, rfl⟩, rfl, fun P => rfl, rfl, rfl, rfl, rfl, rfl, rfl⟩
noncomputable def fnDivmod : FnAt 70 := ⟨_, _, fun P => ⟨_, rfl, rfl⟩, rfl, fun P => rfl, rfl, rfl, rfl, rfl, rfl, rfl⟩
noncomputable def fnAdd : FnAt 77 := ⟨_, _, fun P => ⟨_, rfl, rfl⟩, rfl, fun P => rfl, rfl, rfl, rfl, rfl, rfl, rfl⟩
noncomputable def fnMul : FnAt 84 := ⟨_, _, fun P => ⟨_, rfl, rfl⟩, rfl, fun P => rfl, rfl, rfl, rfl, rfl, rfl, rfl⟩
noncomputable def fnSub : FnAt 91 := ⟨_, _, fun P => ⟨_, rfl, rfl⟩, rfl, fun P => rfl, rfl, rfl, rfl, rfl, rfl, rfl⟩
noncomputable def fnConcat : FnAt 98 := ⟨_, _, fun P => ⟨_, rfl, rfl⟩, rfl, fun P => rfl, rfl, rfl, rfl, rfl, rfl, rfl⟩
noncomputable def fnContains : FnAt 105 := ⟨_, _, fun P => ⟨_, rfl, rfl⟩, rfl, fun P => rfl, rfl, rfl, rfl, rfl, rfl, rfl⟩
noncomputable def fnCount : FnAt 112 := ⟨_, _, fun P => ⟨_, rfl, rfl⟩, rfl, fun P => rfl, rfl, rfl, rfl, rfl, rfl, rfl⟩
noncomputable def fnPow : FnAt 119 := ⟨_, _, fun P => ⟨_, rfl, rfl⟩, rfl, fun P => rfl, rfl, rfl, rfl, rfl, rfl, rfl⟩
noncomputable def fnHeaps : FnAt 124 := ⟨_, _, fun P => ⟨_, rfl, rfl⟩, rfl, fun P => rfl, rfl, rfl, rfl, rfl, rfl, rfl⟩
noncomputable def fnBase : FnAt 131 := ⟨_, _, fun P => ⟨_, rfl, rfl⟩, rfl, fun P => rfl, rfl, rfl, rfl, rfl, rfl, rfl⟩
noncomputable def fnParts : FnAt 136 := ⟨_, _, fun P => ⟨_, rfl, rfl⟩, rfl, fun P => rfl, rfl, rfl, rfl, rfl, rfl, rfl⟩
noncomputable def fnNumbers : FnAt 143 := ⟨_, _, fun P => ⟨_, rfl, rfl⟩, rfl, fun P => rfl, rfl, rfl, rfl, rfl, rfl, rfl⟩
noncomputable def fnChoices : FnAt 148 := ⟨_, _, fun P => ⟨_, rfl, rfl⟩, rfl, fun P => rfl, rfl, rfl, rfl, rfl, rfl, rfl⟩
noncomputable def fnPrice : FnAt 155 := ⟨_, _, fun P => ⟨_, rfl, rfl⟩, rfl, fun P => rfl, rfl, rfl, rfl, rfl, rfl, rfl⟩

structure WOk (W : Wd) : Prop where
  K : W.K = pre.heap_1 W.w.params
  g : ∀ x v, nsIn W.K mainGlobals x = some (some v) → W.mg x = some v
  b : ∀ x v, nsIn W.K mainGlobals x = some none → bootBuiltins x = some v → x ≠ "__name__" → W.mg x = none ∧ W.mb x = some v

theorem FnAt.ok {W : Wd} {a : Addr} (f : FnAt a) (h : WOk W) : FnOk W a f.fd f.body where
  loc := by rw [h.K]; exact f.loc _
  code := by rw [h.K]; exact f.code _
  body := f.hbody
  clo := f.clo
  co := f.co
  gen := f.gen
  kind := f.kind
  gl := f.gl
  bu := f.bu

theorem gnm {W : Wd} (h : WOk W) {env : Env} {x : PySem.Str} {v : Value} (hk : env.kindOf x = some .globalImplicit) (hv : ∀ P, nsIn (pre.heap_1 P) mainGlobals x = some (some v)) (hd' : (x == ("__debug__" : PySem.Str)) = false := by rfl) : GNm W env x v :=
  ⟨hk, hd', .inl (h.g x v (by rw [h.K]; exact hv _))⟩
theorem gnb {W : Wd} (h : WOk W) {env : Env} {x : PySem.Str} {v : Value} (hk : env.kindOf x = some .globalImplicit) (hv : ∀ P, nsIn (pre.heap_1 P) mainGlobals x = some none) (hb : bootBuiltins x = some v) (hn : x ≠ "__name__") (hd' : (x == ("__debug__" : PySem.Str)) = false := by rfl) : GNm W env x v :=
  ⟨hk, hd', .inr (h.b x v (by rw [h.K]; exact hv _) hb hn)⟩


theorem cellsFrom_mono : ∀ (names : List (PySem.Str × NameKind)) (n : Nat) (acc : List (PySem.Str × Addr)) (x : PySem.Str), (acc.lookup x).isSome = true → ((cellsFrom n names acc).lookup x).isSome = true
  | [], _, _, _, h => h
  | (m, k) :: r, n, acc, x, h => by
    unfold cellsFrom
    split
    · refine cellsFrom_mono r _ _ x ?_
      rw [List.lookup_cons]
      cases x == m <;> simp [h]
    · exact cellsFrom_mono r _ _ x h
theorem cellsFrom_some : ∀ (names : List (PySem.Str × NameKind)) (n : Nat) (acc : List (PySem.Str × Addr)) (x : PySem.Str), names.lookup x = some .cell → ((cellsFrom n names acc).lookup x).isSome = true
  | (m, k) :: r, n, acc, x, h => by
    unfold cellsFrom
    rw [List.lookup_cons] at h
    cases hx : x == m with
    | true =>
      rw [hx] at h; cases h
      simp only [beq_self_eq_true, if_true]
      exact cellsFrom_mono r _ _ x (by rw [List.lookup_cons, hx]; rfl)
    | false =>
      rw [hx] at h
      split
      · exact cellsFrom_some r _ _ x h
      · exact cellsFrom_some r _ _ x h

/-- a function's call, by its body -/
theorem callSp {W : Wd} {d : Nat} {a : Addr} (f : FnAt a) (hW : WOk W) (names : List PySem.Str) {pvs : List PV} {r : PV} (hlen : names.length = pvs.length)
    (hbind : ∀ vs : List Value, vs.length = pvs.length → bindArgs f.fd ⟨vs, []⟩ = pure (names.zip vs))
    (hb : ∀ L, Ex W d (callEnvC f.fd L a) (names.zip pvs) [] f.body (fun _ _ => r = .none) (· = r))
    (hnd : names.Nodup := by decide) (hk : names.all (fun x => f.fd.scope.names.lookup x == some .local || f.fd.scope.names.lookup x == some .cell) = true := by rfl) : CallSp W (d + 1) (.ref a) pvs r :=
  CallSp.fn (f.ok hW) hnd hlen hbind (fun L x hx => by
    have := List.all_eq_true.mp hk x hx
    simp only [Bool.or_eq_true, beq_iff_eq] at this
    exact this.imp id fun q => ⟨q, cellsFrom_some _ _ _ _ q⟩) (fun L x hx => cellsFrom_some _ _ _ _ hx) hb
theorem bind1 {f : FuncData} {x : PySem.Str} {pvs : List PV} (hl : pvs.length = 1) (h : ∀ u, bindArgs f ⟨[u], []⟩ = pure [(x, u)]) : ∀ vs : List Value, vs.length = pvs.length → bindArgs f ⟨vs, []⟩ = pure ([x].zip vs) := fun vs h' => by
  match vs, h'.trans hl with
  | [u], _ => exact h u
theorem bind2 {f : FuncData} {x y : PySem.Str} {pvs : List PV} (hl : pvs.length = 2) (h : ∀ u v, bindArgs f ⟨[u, v], []⟩ = pure [(x, u), (y, v)]) : ∀ vs : List Value, vs.length = pvs.length → bindArgs f ⟨vs, []⟩ = pure ([x, y].zip vs) := fun vs h' => by
  match vs, h'.trans hl with
  | [u, v], _ => exact h u v
theorem bind3 {f : FuncData} {x y z : PySem.Str} {pvs : List PV} (hl : pvs.length = 3) (h : ∀ u v w, bindArgs f ⟨[u, v, w], []⟩ = pure [(x, u), (y, v), (z, w)]) : ∀ vs : List Value, vs.length = pvs.length → bindArgs f ⟨vs, []⟩ = pure ([x, y, z].zip vs) := fun vs h' => by
  match vs, h'.trans hl with
  | [u, v, w], _ => exact h u v w
theorem bind6 {f : FuncData} {x1 x2 x3 x4 x5 x6 : PySem.Str} {pvs : List PV} (hl : pvs.length = 6) (h : ∀ u1 u2 u3 u4 u5 u6, bindArgs f ⟨[u1, u2, u3, u4, u5, u6], []⟩ = pure [(x1, u1), (x2, u2), (x3, u3), (x4, u4), (x5, u5), (x6, u6)]) : ∀ vs : List Value, vs.length = pvs.length → bindArgs f ⟨vs, []⟩ = pure ([x1, x2, x3, x4, x5, x6].zip vs) := fun vs h' => by
  match vs, h'.trans hl with
  | [u1, u2, u3, u4, u5, u6], _ => exact h u1 u2 u3 u4 u5 u6
end Mine

namespace Mine
local macro_rules | `(tactic| omega) => `(tactic| lia)
local macro_rules | `(tactic| walk_at "mine side") => `(tactic| first | with_reducible assumption | omega | decide | (intros; first | with_reducible assumption | omega))
local macro_rules | `(tactic| walk_at "mine nm") => `(tactic| first
  | ((with_reducible apply EvT.name); rfl; rfl; rfl)
  | ((with_reducible apply EvT.imm); (with_reducible apply EvT.name); rfl; rfl; rfl; rfl))
local macro_rules | `(tactic| walk_at "mine op") => `(tactic| first
  | with_reducible exact Op2.add | with_reducible exact Op2.sub | with_reducible exact Op2.eqi | with_reducible exact Op2.nei | with_reducible exact Op2.lti | with_reducible exact Op2.lei | with_reducible exact Op2.gti | with_reducible exact Op2.gei | with_reducible exact Op2.eqs | with_reducible exact Op2.nes
  | with_reducible exact Op2.band | with_reducible exact Op2.bor | with_reducible exact Op2.bxor | with_reducible exact Op2.iadd | with_reducible exact Op2.isub
  | ((with_reducible refine Op2.mul ?_) <;> walk_at "mine side") | ((with_reducible refine Op2.fdiv ?_ ?_) <;> walk_at "mine side") | ((with_reducible refine Op2.fmod ?_) <;> walk_at "mine side") | ((with_reducible refine Op2.pow ?_ ?_) <;> walk_at "mine side")
  | ((with_reducible refine Op2.shl ?_ ?_) <;> walk_at "mine side") | ((with_reducible refine Op2.shr ?_) <;> walk_at "mine side") | ((with_reducible refine Op2.ishl ?_ ?_) <;> walk_at "mine side") | ((with_reducible refine Op2.ishr ?_) <;> walk_at "mine side") | ((with_reducible refine Op2.ipow ?_ ?_) <;> walk_at "mine side")
  | with_reducible exact Op2.inInts | with_reducible exact Op2.notinInts | with_reducible exact Op2.notinStrs | with_reducible exact Op2.eqTup)
local macro_rules | `(tactic| walk_at "mine ev") => `(tactic| first
  | walk_at "mine nm"
  | with_reducible exact EvTN.cint
  | with_reducible exact EvTN.cstr
  | with_reducible exact EvTN.cnone
  | with_reducible exact EvTN.cbool
  | ((with_reducible apply EvTN.global); (exact gnm (by assumption) rfl (fun P => rfl)); (intro _ _ _; exact .int _ _))
  | ((with_reducible apply EvTN.binop); (walk_at "mine ev"); (walk_at "mine ev"); (walk_at "mine op"))
  | ((with_reducible apply EvTN.unop); (walk_at "mine ev"); (with_reducible first | exact Op1.neg | exact Op1.inv))
  | ((with_reducible apply EvTN.meth0); rfl; rfl; (exact PySem.F.plainAttrs_int); (exact PySem.F.slot_int_bit_length); (exact PySem.F.type_int_bit_length); (walk_at "mine ev"); (exact isT_int); (exact CallSp.bits))
  | ((with_reducible apply EvTN.meth0); rfl; rfl; (exact PySem.F.plainAttrs_str); (exact PySem.F.slot_str_lower); (exact PySem.F.type_str_lower); (walk_at "mine ev"); (exact isT_str); (refine CallSp.lower ?_; walk_at "mine side"))
  | ((with_reducible apply EvTN.tuple); (walk_at "mine argsN"); (simp [sizeLine]))
  | ((with_reducible apply EvTN.call); (walk_at "mine fn"); (walk_at "mine cl"); (walk_at "mine args"); rfl; rfl; (walk_at "mine sp"))
  | ((with_reducible apply EvTN.ev); (walk_at "mine ev")))
local macro_rules | `(tactic| walk_at "mine args") => `(tactic| first
  | with_reducible exact EvL.nil
  | ((with_reducible apply EvL.cons); (walk_at "mine ev"); (walk_at "mine args"); rfl))
local macro_rules | `(tactic| walk_at "mine argsN") => `(tactic| first
  | with_reducible exact EvLN.nil
  | ((with_reducible apply EvLN.cons); (walk_at "mine ev"); (walk_at "mine argsN"); rfl))
local macro_rules | `(tactic| walk_at "mine fn") => `(tactic| first
  | exact gnm (by assumption) rfl (fun P => rfl)
  | exact gnb (by assumption) rfl (fun P => rfl) rfl (by decide))
local macro_rules | `(tactic| walk_at "mine cl") => `(tactic| first
  | exact .inl ⟨_, rfl⟩
  | exact .inr (.inl ⟨_, rfl⟩)
  | exact FnOk.callee (FnAt.ok (by assumption) (by assumption)))
local macro_rules | `(tactic| walk_at "mine sp") => `(tactic| first
  | exact CallSp.lenS (by assumption) | exact CallSp.abs | exact CallSp.min | exact CallSp.divmod (by assumption) (by assumption)
  | assumption)
local macro_rules | `(tactic| walk_at "mine b") => `(tactic| first
  | ((with_reducible apply EvB.cmp); (walk_at "mine ev"); (walk_at "mine ev"); (walk_at "mine op"); rfl)
  | ((with_reducible apply EvB.val); (walk_at "mine ev"); (exact Truth.int); (intro _; rfl))
  | with_reducible exact EvB.and_nil
  | with_reducible exact EvB.or_nil
  | ((with_reducible apply EvB.and); (walk_at "mine b"); (intro _; walk_at "mine b"))
  | ((with_reducible apply EvB.or); (walk_at "mine b"); (intro _; walk_at "mine b"))
  | ((with_reducible apply EvB.not); (walk_at "mine b"))
  | ((with_reducible apply EvB.chain2); (walk_at "mine ev"); (walk_at "mine ev"); (walk_at "mine op"); (intro _; walk_at "mine ev"); (intro _; walk_at "mine op"); rfl))
local macro_rules | `(tactic| walk_at "mine up") => `(tactic| exact rfl)

noncomputable def price (a b : Int) : Int := if a = b then 0 else if (if a - b < 0 then -(a - b) else a - b) = 32 ∧ 65 ≤ (if b < a then b else a) ∧ (if b < a then b else a) ≤ 90 then 1 else 2

section
variable {W : Wd} (hW : WOk W)
include hW

theorem sp_price (a b : Int) : CallSp W 1 (.ref 155) [.int a, .int b] (.int (price a b)) := by
  refine callSp fnPrice hW ["one", "other"] rfl (bind2 rfl fun _ _ => rfl) fun L => ?_
  show Ex W 0 _ [("one", .int a), ("other", .int b)] [] _ _ _
  refine Ex.ifRet (by walk_at "mine b") (fun h => Ex.ret EvTN.cint (by have : a = b := by simpa using h
                                                                       simp [price, this])) fun h => ?_
  refine Ex.ifRet (by walk_at "mine b") (fun h' => Ex.ret EvTN.cint ?_) fun h' => Ex.ret EvTN.cint ?_
  · simp only [Bool.and_eq_true, beq_iff_eq, decide_eq_true_eq, and_true, beq_eq_false_iff_ne] at h h'
    rw [price, if_neg h, if_pos h']
  · simp only [Bool.and_eq_false_iff, beq_eq_false_iff_ne, decide_eq_false_iff_not, Bool.true_eq_false, or_false] at h h'
    rw [price, if_neg h, if_neg (fun q => by rcases h' with h' | h' | h'; exact h' q.1; exact h' q.2.1; exact h' q.2.2)]

theorem sp_add (a b : Int) : CallSp W 1 (.ref 77) [.int a, .int b] (.int (a + b)) := by
  refine callSp fnAdd hW ["a", "b"] rfl (bind2 rfl fun _ _ => rfl) fun L => ?_
  show Ex W 0 _ [("a", .int a), ("b", .int b)] [] _ _ _
  exact Ex.ret (by walk_at "mine ev") rfl
theorem sp_sub (a b : Int) : CallSp W 1 (.ref 91) [.int a, .int b] (.int (a - b)) := by
  refine callSp fnSub hW ["a", "b"] rfl (bind2 rfl fun _ _ => rfl) fun L => ?_
  show Ex W 0 _ [("a", .int a), ("b", .int b)] [] _ _ _
  exact Ex.ret (by walk_at "mine ev") rfl
theorem sp_mul (a b : Int) (h : IntMulOk a b) : CallSp W 1 (.ref 84) [.int a, .int b] (.int (a * b)) := by
  refine callSp fnMul hW ["a", "b"] rfl (bind2 rfl fun _ _ => rfl) fun L => ?_
  show Ex W 0 _ [("a", .int a), ("b", .int b)] [] _ _ _
  exact Ex.ret (by walk_at "mine ev") rfl
theorem sp_pow (a n : Int) (hn : 0 ≤ n) (hz : (Builtin.Int.intBits a : Int) * n ≤ 2 ^ 27) : CallSp W 1 (.ref 119) [.int a, .int n] (.int (a ^ n.toNat)) := by
  refine callSp fnPow hW ["a", "b"] rfl (bind2 rfl fun _ _ => rfl) fun L => ?_
  show Ex W 0 _ [("a", .int a), ("b", .int n)] [] _ _ _
  refine Ex.aug rfl (by walk_at "mine ev") (by walk_at "mine op") (by simp) (.inl rfl) (by walk_at "mine up") ?_
  exact Ex.ret (by walk_at "mine ev") rfl
theorem sp_contains (ns : List Int) (k : Int) : CallSp W 1 (.ref 105) [.list (ns.map .int), .int k] (.bool (ns.any (· == k))) := by
  refine callSp fnContains hW ["a", "b"] rfl (bind2 rfl fun _ _ => rfl) fun L => ?_
  show Ex W 0 _ [("a", .list (ns.map .int)), ("b", .int k)] [] _ _ _
  exact Ex.ret (EvTN.cmp (by walk_at "mine ev") (by walk_at "mine ev") (by walk_at "mine op") rfl) rfl
end

theorem CallSp.up {W : Wd} {d d' : Nat} {fv : Value} {as : List PV} {r : PV} (h : CallSp W d fv as r) (hd : d ≤ d') : CallSp W d' fv as r := fun g l V A s E vs hR hB hv => h g l V A s E vs (hR.le hd) hB hv
theorem EvTN.eq {W : Wd} {d : Nat} {env : Env} {σ : Loc} {t : Sem Value} {pv pv' : PV} (h : EvTN W d env σ t pv) (e : pv = pv') : EvTN W d env σ t pv' := e ▸ h
theorem CallSp.args {W : Wd} {d : Nat} {fv : Value} {as as' : List PV} {r : PV} (h : CallSp W d fv as r) (e : as' = as) : CallSp W d fv as' r := e ▸ h

section
variable {W : Wd} (hW : WOk W)
include hW

theorem sp_div2_direct (a b n : Nat) (hb : 0 < b) (hb9 : b < 2 ^ 9000) (hbits : (Builtin.Int.intBits (a : Int) : Int) - n ≤ 4000) : CallSp W 1 (.ref 35) [.int a, .int b, .int n] (.tup [.int (a / b : Nat), .int (a % b : Nat)]) := by
  refine callSp fnDiv2 hW ["a", "b", "n"] rfl (bind3 rfl fun _ _ _ => rfl) fun L => ?_
  show Ex W 0 _ [("a", .int a), ("b", .int b), ("n", .int n)] [] _ _ _
  have hb0 : (b : Int) ≠ 0 := by omega
  have hp : Builtin.divisionGoesByPylong (a : Int) (b : Int) = false := pylong_no (by simpa using hb9)
  refine Ex.ifRet (by walk_at "mine b") (fun h => Ex.ret (pv := .tup [.int (a / b : Nat), .int (a % b : Nat)]) (EvTN.eq (by walk_at "mine ev") (by rw [fdiv_nat, fmod_nat])) rfl) fun h => ?_
  simp at h; omega
end
theorem Ex.done {W : Wd} {d : Nat} {env : Env} {Γ Γ' : Ctx} {O : List PySem.Str} {N : Ctx → List PySem.Str → Prop} {R : PV → Prop} (hle : Γ'.Le Γ) (ho : ∀ x ∈ O, Γ'.loc x = Γ.loc x) (h : N Γ' O) : Ex W d env Γ O [] N R := Ex.weak (Ex.nil h) hle ho

/-- the guess of a quotient is not too small -/
theorem guess {A12 a3 b1 b2 P q0 : Nat} (ha3 : a3 < P) (hA : A12 * P + a3 < (b1 * P + b2) * P) (hq : (A12 / P = b1 ∧ q0 = P - 1) ∨ (A12 / P ≠ b1 ∧ q0 = A12 / b1)) (hb1 : 0 < b1) (hP : 0 < P) (hb2 : b2 < P) :
    A12 * P + a3 < (q0 + 1) * (b1 * P + b2) ∧ q0 * b1 ≤ A12 ∧ q0 < P := by
  rcases hq with ⟨h1, h2⟩ | ⟨h1, h2⟩
  · subst h2
    have e : P - 1 + 1 = P := by omega
    rw [e]
    refine ⟨by rw [Nat.mul_comm P]; exact hA, ?_, by omega⟩
    have : P * b1 ≤ A12 := by rw [← h1]; exact Nat.mul_div_le A12 P
    exact Nat.le_trans (Nat.mul_le_mul_right _ (Nat.sub_le _ _)) this
  · subst h2
    have h3 : A12 < (A12 / b1 + 1) * b1 := by rw [Nat.mul_comm]; exact Nat.lt_mul_div_succ A12 hb1
    have hlt : A12 < b1 * P + b2 := by
      have : A12 * P < (b1 * P + b2) * P := by omega
      exact Nat.lt_of_mul_lt_mul_right this
    have h4 : A12 / P < b1 := by
      have : A12 / P < b1 + 1 := by
        rw [Nat.div_lt_iff_lt_mul hP, Nat.add_mul]; omega
      omega
    refine ⟨?_, Nat.div_mul_le_self A12 b1, ?_⟩
    · have h5 : (A12 + 1) * P ≤ (A12 / b1 + 1) * b1 * P := Nat.mul_le_mul_right _ h3
      have h6 : (A12 / b1 + 1) * b1 * P ≤ (A12 / b1 + 1) * (b1 * P + b2) := by rw [Nat.mul_assoc]; exact Nat.mul_le_mul_left _ (Nat.le_add_right _ _)
      have h7 : (A12 + 1) * P = A12 * P + P := Nat.succ_mul _ _
      omega
    · rw [Nat.div_lt_iff_lt_mul hb1, Nat.mul_comm]
      exact (Nat.div_lt_iff_lt_mul hP).mp h4

theorem div_end {A B : Nat} {q r : Int} (h : r + q * B = A) (h0 : 0 ≤ r) (h1 : r < B) : q = (A / B : Nat) ∧ r = (A % B : Nat) := by
  have hB : 0 < B := by omega
  have e : ((A : Int)) / (B : Int) = q := by
    rw [← h, Int.add_mul_ediv_right _ _ (by omega), Int.ediv_eq_zero_of_lt h0 h1]; omega
  have e2 : ((A : Int)) % (B : Int) = r := by
    rw [← h, Int.add_mul_emod_self_right, Int.emod_eq_of_lt h0 h1]
  exact ⟨by rw [← e]; simp, by rw [← e2]; simp⟩

section
variable {W : Wd} (hW : WOk W)
include hW

theorem sp_div3 (A12 a3 b1 b2 n : Nat) (hn : n ≤ 4000) (hb1 : 0 < b1) (hb1' : b1 < 2 ^ n) (hb2 : b2 < 2 ^ n) (ha3 : a3 < 2 ^ n) (hA : A12 * 2 ^ n + a3 < (b1 * 2 ^ n + b2) * 2 ^ n) :
    CallSp W 2 (.ref 42) [.int A12, .int a3, .int (b1 * 2 ^ n + b2 : Nat), .int b1, .int b2, .int n] (.tup [.int ((A12 * 2 ^ n + a3) / (b1 * 2 ^ n + b2) : Nat), .int ((A12 * 2 ^ n + a3) % (b1 * 2 ^ n + b2) : Nat)]) := by
  obtain ⟨q0, hq0⟩ : ∃ q0, (A12 / 2 ^ n = b1 ∧ q0 = 2 ^ n - 1) ∨ (A12 / 2 ^ n ≠ b1 ∧ q0 = A12 / b1) := by
    by_cases h : A12 / 2 ^ n = b1
    · exact ⟨_, .inl ⟨h, rfl⟩⟩
    · exact ⟨_, .inr ⟨h, rfl⟩⟩
  have hP : 0 < 2 ^ n := Nat.two_pow_pos n
  obtain ⟨g1, g2, g3⟩ := guess ha3 hA hq0 hb1 hP hb2
  generalize hB : b1 * 2 ^ n + b2 = B at *
  generalize hAA : A12 * 2 ^ n + a3 = A at *
  have hBlt : B < 2 ^ (2 * n) := by
    have e : 2 ^ (2 * n) = 2 ^ n * 2 ^ n := by rw [Nat.two_mul, Nat.pow_add]
    have h1 : (b1 + 1) * 2 ^ n ≤ 2 ^ n * 2 ^ n := Nat.mul_le_mul_right _ hb1'
    have h2 : (b1 + 1) * 2 ^ n = b1 * 2 ^ n + 2 ^ n := Nat.succ_mul _ _
    omega
  have hA12 : A12 < B := by
    have : A12 * 2 ^ n < B * 2 ^ n := by omega
    exact Nat.lt_of_mul_lt_mul_right this
  have hA12lt : A12 < 2 ^ (2 * n) := Nat.lt_trans hA12 hBlt
  refine callSp fnDiv3 hW ["a12", "a3", "b", "b1", "b2", "n"] rfl (bind6 rfl fun _ _ _ _ _ _ => rfl) fun L => ?_
  show Ex W 1 _ [("a12", .int A12), ("a3", .int a3), ("b", .int B), ("b1", .int b1), ("b2", .int b2), ("n", .int n)] [] _ _ _
  have hn0 : (0 : Int) ≤ n := by omega
  have s1 : (Builtin.Int.intBits 1 : Int) + n ≤ 2 ^ 27 := by have : Builtin.Int.intBits 1 ≤ 1 := by decide
                                                             omega
  have s2 : (Builtin.Int.intBits (b1 : Int) : Int) + n ≤ 2 ^ 27 := by have := bits_nat_le hb1'; omega
  refine Ex.iff (N₁ := fun Γ' O' => Γ' = ([("a12", .int A12), ("a3", .int a3), ("b", .int B), ("b1", .int b1), ("b2", .int b2), ("n", .int n), ("q", .int q0), ("r", .int (A12 - q0 * b1 : Nat))] : Ctx) ∧ O' = []) (by walk_at "mine b") (fun h => ?_) (fun h => ?_) fun Γ' O' hN => ?_
  · have h' : A12 / 2 ^ n = b1 := by
      rw [shr_nat] at h
      have := beq_iff_eq.mp h
      omega
    have hq : q0 = 2 ^ n - 1 := by rcases hq0 with q | q; exact q.2; exact absurd h' q.1
    refine Ex.pairSw (FEv.N (EvTN.eq (pv' := .tup [.int (q0 : Nat), .int (A12 - q0 * b1 : Nat)]) (by walk_at "mine ev") ?_)) (by simp) (by simp) (.inl rfl) (.inl rfl) (by walk_at "mine up") (by walk_at "mine up") ?_
    · have e1 : (1 : Int) * 2 ^ ((n : Int)).toNat - 1 = (q0 : Nat) := by
        rw [hq, Int.ofNat_sub hP]; simp
      have e2 : (A12 : Int) - (b1 : Int) * 2 ^ ((n : Int)).toNat + b1 = ((A12 - q0 * b1 : Nat) : Int) := by
        rw [shl_nat, Int.ofNat_sub g2, hq, Nat.sub_mul, Nat.mul_comm (2 ^ n) b1, Nat.one_mul]
        have : b1 ≤ b1 * 2 ^ n := Nat.le_mul_of_pos_right _ hP
        omega
      rw [e1, e2]
    · exact Ex.done (by repeat' (first | exact Ctx.Le.nil | refine Ctx.Le.cons rfl ?_)) (by simp) ⟨rfl, rfl⟩
  · have h' : A12 / 2 ^ n ≠ b1 := by
      rw [shr_nat] at h
      have := beq_eq_false_iff_ne.mp h
      omega
    have hq : q0 = A12 / b1 := by rcases hq0 with q | q; exact absurd q.1 h'; exact q.2
    have hd2 := sp_div2_direct hW A12 b1 n hb1 (Nat.lt_of_lt_of_le hb1' (Nat.pow_le_pow_right (by omega) (by omega))) (by have := bits_nat_le hA12lt; omega)
    have er : A12 - q0 * b1 = A12 % b1 := by rw [hq, Nat.mul_comm]; have := Nat.div_add_mod A12 b1; omega
    rw [er, hq]
    refine Ex.pair (FEv.N (EvTN.call (by walk_at "mine fn") (by exact (fnDiv2.ok hW).callee) (by walk_at "mine args") rfl rfl hd2)) (by simp) (by simp) (.inl rfl) (.inl rfl) (by walk_at "mine up") (by walk_at "mine up") ?_
    exact Ex.nil ⟨rfl, rfl⟩
  · obtain ⟨rfl, rfl⟩ := hN
    have s3 : (Builtin.Int.intBits ((A12 - q0 * b1 : Nat) : Int) : Int) + n ≤ 2 ^ 27 := by have := bits_nat_le (a := A12 - q0 * b1) (m := 2 * n) (by omega); omega
    have s4 : IntMulOk (q0 : Int) (b2 : Int) := IntMulOk.of_le (bits_nat_le g3) (bits_nat_le hb2) (by omega)
    refine Ex.assign (pv := .int (A - q0 * B : Int)) (FEv.N (EvTN.eq (by walk_at "mine ev") ?_)) (by simp) (.inl rfl) (by walk_at "mine up") ?_
    · rw [shl_nat, or_shift _ _ _ ha3]
      have e1 : ((A12 - q0 * b1) * 2 ^ n + a3 : Nat) + q0 * b1 * 2 ^ n = A := by
        rw [← hAA, Nat.sub_mul]
        have : q0 * b1 * 2 ^ n ≤ A12 * 2 ^ n := Nat.mul_le_mul_right _ g2
        omega
      have e2 : (q0 : Int) * B = ((q0 * b1 * 2 ^ n : Nat) : Int) + (q0 : Int) * b2 := by
        rw [← hB]; push_cast; rw [Int.mul_add, Int.mul_assoc]
      congr 1
      rw [e2]; omega
    have hr0 : (A : Int) - q0 * B < B := by
      have : ((q0 + 1) * B : Nat) = (q0 : Int) * B + B := by push_cast; rw [Int.add_mul, Int.one_mul]
      omega
    refine Ex.while (Inv := fun m Γ' O' => ∃ q r : Int, Γ' = ([("a12", .int A12), ("a3", .int a3), ("b", .int B), ("b1", .int b1), ("b2", .int b2), ("n", .int n), ("q", .int q), ("r", .int r)] : Ctx) ∧ O' = [] ∧ r + q * B = A ∧ r < B ∧ m = (-r).toNat) _ ⟨q0, _, rfl, rfl, by omega, hr0, rfl⟩ fun m Γ' O' hI => ?_
    obtain ⟨q, r, rfl, rfl, h1, h2, rfl⟩ := hI
    refine ⟨_, by walk_at "mine b", fun h => ?_, fun h => ?_⟩
    · simp at h
      refine Ex.aug rfl (by walk_at "mine ev") (by walk_at "mine op") (by simp) (.inl rfl) (by walk_at "mine up") ?_
      refine Ex.aug rfl (by walk_at "mine ev") (by walk_at "mine op") (by simp) (.inl rfl) (by walk_at "mine up") ?_
      refine Ex.nil ⟨_, by omega, q - 1, r + B, rfl, rfl, ?_, by omega, rfl⟩
      rw [Int.sub_mul]; omega
    · simp at h
      obtain ⟨rfl, rfl⟩ := div_end h1 h h2
      exact Ex.ret (by walk_at "mine ev") rfl
end

/-- schoolbook: two halves -/
theorem halves {A B P : Nat} (hB : 0 < B) (hP : 0 < P) :
    A / B = A / P / B * P + (A / P % B * P + A % P) / B ∧ A % B = (A / P % B * P + A % P) % B := by
  have e1 : P * (A / P) + A % P = A := Nat.div_add_mod A P
  have e2 : B * (A / P / B) + A / P % B = A / P := Nat.div_add_mod (A / P) B
  have e3 := Nat.div_add_mod (A / P % B * P + A % P) B
  have e4 : A = (A / P / B * P + (A / P % B * P + A % P) / B) * B + (A / P % B * P + A % P) % B := by
    rw [Nat.add_mul]
    have h1 : A / P / B * P * B + A / P % B * P = P * (A / P) := by
      rw [Nat.mul_right_comm, ← Nat.add_mul, Nat.mul_comm (A / P / B) B, e2, Nat.mul_comm]
    have h2 : (A / P % B * P + A % P) / B * B = B * ((A / P % B * P + A % P) / B) := Nat.mul_comm _ _
    omega
  have hlt := Nat.mod_lt (A / P % B * P + A % P) hB
  constructor
  · conv => lhs; rw [e4]
    rw [Nat.add_comm, Nat.add_mul_div_right _ _ hB, Nat.div_eq_of_lt hlt]; omega
  · conv => lhs; rw [e4]
    rw [Nat.add_comm, Nat.add_mul_mod_self_right, Nat.mod_eq_of_lt hlt]

section
variable {W : Wd} (hW : WOk W)
include hW

theorem sp_div2 (a b n : Nat) (hn1 : 1 ≤ n) (hn : n ≤ 8000) (hb1 : 2 ^ (n - 1) ≤ b) (hb2 : b < 2 ^ n) (ha : a < b * 2 ^ n) :
    CallSp W 3 (.ref 35) [.int a, .int b, .int n] (.tup [.int (a / b : Nat), .int (a % b : Nat)]) := by
  have hb0 : 0 < b := Nat.lt_of_lt_of_le (Nat.two_pow_pos _) hb1
  have hb9 : b < 2 ^ 9000 := Nat.lt_of_lt_of_le hb2 (Nat.pow_le_pow_right (by omega) (by omega))
  by_cases hbits : (Builtin.Int.intBits (a : Int) : Int) - n ≤ 4000
  · exact (sp_div2_direct hW a b n hb0 hb9 hbits).up (by omega)
  have ha2 : a < 2 ^ (2 * n) := by
    have e : 2 ^ (2 * n) = 2 ^ n * 2 ^ n := by rw [Nat.two_mul, Nat.pow_add]
    have := Nat.mul_le_mul_right (2 ^ n) (Nat.le_of_lt hb2)
    omega
  obtain ⟨p, hp⟩ : ∃ p, p = n % 2 := ⟨_, rfl⟩
  obtain ⟨h, hh⟩ : ∃ h, n + p = 2 * h := ⟨(n + p) / 2, by omega⟩
  have hp2 : p < 2 := by omega
  obtain ⟨A, hA⟩ : ∃ A, A = a * 2 ^ p := ⟨_, rfl⟩
  obtain ⟨B, hB⟩ : ∃ B, B = b * 2 ^ p := ⟨_, rfl⟩
  have hPp : 0 < 2 ^ p := Nat.two_pow_pos p
  have hP : 0 < 2 ^ h := Nat.two_pow_pos h
  have hPP : 2 ^ (2 * h) = 2 ^ h * 2 ^ h := by rw [Nat.two_mul, Nat.pow_add]
  have hBlt : B < 2 ^ h * 2 ^ h := by
    rw [← hPP, ← hh, Nat.pow_add, hB]; exact Nat.mul_lt_mul_of_pos_right hb2 hPp
  have hBge : 2 ^ h ≤ B := by
    have h1 : 2 ^ (n - 1) * 2 ^ p ≤ B := by rw [hB]; exact Nat.mul_le_mul_right _ hb1
    rw [← Nat.pow_add] at h1
    exact Nat.le_trans (Nat.pow_le_pow_right (by omega) (by omega)) h1
  have hB0 : 0 < B := by omega
  have hAlt : A < B * (2 ^ h * 2 ^ h) := by
    rw [← hPP, ← hh, hA, hB, Nat.pow_add]
    have h1 : a * 2 ^ p < b * 2 ^ n * 2 ^ p := Nat.mul_lt_mul_of_pos_right ha hPp
    have h2 : b * 2 ^ n * 2 ^ p ≤ b * 2 ^ n * 2 ^ p * 2 ^ p := Nat.le_mul_of_pos_right _ hPp
    have h3 : b * 2 ^ n * 2 ^ p * 2 ^ p = b * 2 ^ p * (2 ^ n * 2 ^ p) := by
      rw [Nat.mul_right_comm b, Nat.mul_assoc]
    omega
  have hAbits : A < 2 ^ (4 * h) := by
    have e : 2 ^ (4 * h) = 2 ^ h * 2 ^ h * (2 ^ h * 2 ^ h) := by rw [← hPP, ← Nat.pow_add]; congr 1; omega
    rw [e]
    exact Nat.lt_of_lt_of_le hAlt (Nat.mul_le_mul_right _ (Nat.le_of_lt hBlt))
  obtain ⟨b1, hbb1⟩ : ∃ b1, b1 = B / 2 ^ h := ⟨_, rfl⟩
  obtain ⟨b2, hbb2⟩ : ∃ b2, b2 = B % 2 ^ h := ⟨_, rfl⟩
  have hBsplit : B = b1 * 2 ^ h + b2 := by rw [hbb1, hbb2, Nat.mul_comm]; exact (Nat.div_add_mod B (2 ^ h)).symm
  have hb1pos : 0 < b1 := by rw [hbb1]; exact Nat.div_pos hBge hP
  have hb1lt : b1 < 2 ^ h := by rw [hbb1, Nat.div_lt_iff_lt_mul hP]; exact hBlt
  have hb2lt : b2 < 2 ^ h := by rw [hbb2]; exact Nat.mod_lt _ hP
  obtain ⟨X, hX⟩ : ∃ X, X = A / 2 ^ h := ⟨_, rfl⟩
  have hXsplit : X = A / 2 ^ (2 * h) * 2 ^ h + X % 2 ^ h := by
    have : A / 2 ^ (2 * h) = X / 2 ^ h := by rw [hX, hPP, Nat.div_div_eq_div_mul]
    rw [this, Nat.mul_comm]; exact (Nat.div_add_mod X _).symm
  have hXlt : X < B * 2 ^ h := by
    rw [hX, Nat.div_lt_iff_lt_mul hP, Nat.mul_assoc]; exact hAlt
  have hm1 : X % 2 ^ h < 2 ^ h := Nat.mod_lt _ hP
  have hm2 : A % 2 ^ h < 2 ^ h := Nat.mod_lt _ hP
  have hr1 : X % B < B := Nat.mod_lt _ hB0
  have hsecond : X % B * 2 ^ h + A % 2 ^ h < B * 2 ^ h := by
    have : (X % B + 1) * 2 ^ h ≤ B * 2 ^ h := Nat.mul_le_mul_right _ hr1
    rw [Nat.add_mul, Nat.one_mul] at this
    omega
  have hq2lt : (X % B * 2 ^ h + A % 2 ^ h) / B < 2 ^ h := by rw [Nat.div_lt_iff_lt_mul hB0, Nat.mul_comm (2 ^ h) B]; exact hsecond
  have d1 := sp_div3 hW (A / 2 ^ (2 * h)) (X % 2 ^ h) b1 b2 h (by omega) hb1pos hb1lt hb2lt hm1 (by rw [← hXsplit, ← hBsplit]; exact hXlt)
  rw [← hXsplit, ← hBsplit] at d1
  have d2 := sp_div3 hW (X % B) (A % 2 ^ h) b1 b2 h (by omega) hb1pos hb1lt hb2lt hm2 (by rw [← hBsplit]; exact hsecond)
  rw [← hBsplit] at d2
  obtain ⟨e1, e2⟩ := halves (A := A) hB0 hP
  rw [← hX] at e1 e2
  have e3 : A / B = a / b := by rw [hA, hB, Nat.mul_div_mul_right _ _ hPp]
  have e4 : A % B = a % b * 2 ^ p := by rw [hA, hB, Nat.mul_mod_mul_right]
  obtain ⟨q1, hq1⟩ : ∃ q1, q1 = X / B := ⟨_, rfl⟩
  obtain ⟨q2, hq2⟩ : ∃ q2, q2 = (X % B * 2 ^ h + A % 2 ^ h) / B := ⟨_, rfl⟩
  obtain ⟨r2, hr2⟩ : ∃ r2, r2 = (X % B * 2 ^ h + A % 2 ^ h) % B := ⟨_, rfl⟩
  rw [← hq1] at d1 e1
  rw [← hq2, ← hr2] at d2
  rw [← hq2] at e1 hq2lt
  rw [← hr2] at e2
  rw [e3] at e1
  rw [e4] at e2
  refine callSp fnDiv2 hW ["a", "b", "n"] rfl (bind3 rfl fun _ _ _ => rfl) fun L => ?_
  show Ex W 2 _ [("a", .int a), ("b", .int b), ("n", .int n)] [] _ _ _
  refine Ex.ifRet (by walk_at "mine b") (fun hc => absurd (of_decide_eq_true hc) hbits) fun _ => ?_
  refine Ex.assign (pv := .int (p : Nat)) (FEv.N (EvTN.eq (by walk_at "mine ev") (by rw [bitAnd_m1, hp]; simp))) (by simp) (.inl rfl) (by walk_at "mine up") ?_
  have s1 : (Builtin.Int.intBits (a : Int) : Int) + (1 : Int) ≤ (2 : Int) ^ 27 := by
    have h1 := bits_nat_le ha2
    have h2 : (2 : Int) ^ 27 = 134217728 := by decide
    rw [h2]; omega
  have s2 : (Builtin.Int.intBits (b : Int) : Int) + (1 : Int) ≤ (2 : Int) ^ 27 := by
    have h1 := bits_nat_le hb2
    have h2 : (2 : Int) ^ 27 = 134217728 := by decide
    rw [h2]; omega
  have s3 : (0 : Int) ≤ 1 := by omega
  refine Ex.iff (N₁ := fun Γ' O' => Γ' = ([("a", .int A), ("b", .int B), ("n", .int (n + p : Nat)), ("pad", .int p)] : Ctx) ∧ O' = []) (by walk_at "mine b") (fun hc => ?_) (fun hc => ?_) fun Γ' O' hN => ?_
  · have hp1 : p = 1 := by simp at hc; omega
    refine Ex.aug rfl (by walk_at "mine ev") (by walk_at "mine op") (by simp) (.inl rfl) (by walk_at "mine up") ?_
    refine Ex.aug rfl (by walk_at "mine ev") (by walk_at "mine op") (by simp) (.inl rfl) (by walk_at "mine up") ?_
    refine Ex.aug rfl (by walk_at "mine ev") (by walk_at "mine op") (by simp) (.inl rfl) (by walk_at "mine up") ?_
    refine Ex.nil ⟨?_, rfl⟩
    rw [hA, hB, hp1]; rfl
  · have hp0 : p = 0 := by simp at hc; omega
    refine Ex.nil ⟨?_, rfl⟩
    rw [hA, hB, hp0, Nat.pow_zero, Nat.mul_one, Nat.mul_one]; rfl
  obtain ⟨rfl, rfl⟩ := hN
  refine Ex.assign (pv := .int (h : Nat)) (FEv.N (EvTN.eq (by walk_at "mine ev") ?_)) (by simp) (.inl rfl) (by walk_at "mine up") ?_
  · have := shr_nat (n + p) 1
    rw [hh] at this ⊢
    simp only [Nat.pow_one] at this
    have e : 2 * h / 2 = h := by omega
    rw [e] at this
    exact congrArg PV.int this
  have h0 : (0 : Int) ≤ h := by omega
  have hnp0 : (0 : Int) ≤ (n + p : Nat) := by omega
  have s4 : (Builtin.Int.intBits 1 : Int) + h ≤ 2 ^ 27 := by have : Builtin.Int.intBits 1 ≤ 1 := by decide
                                                             omega
  refine Ex.assign (pv := .int (2 ^ h - 1)) (FEv.N (EvTN.eq (by walk_at "mine ev") (by simp))) (by simp) (.inl rfl) (by walk_at "mine up") ?_
  refine Ex.pairSw (FEv.N (EvTN.eq (pv' := .tup [.int (b1 : Nat), .int (b2 : Nat)]) (by walk_at "mine ev") (by rw [shr_nat, and_mask, hbb1, hbb2]))) (by simp) (by simp) (.inl rfl) (.inl rfl) (by walk_at "mine up") (by walk_at "mine up") ?_
  refine Ex.pair (FEv.N (EvTN.call (by walk_at "mine fn") (by exact (fnDiv3.ok hW).callee) (by walk_at "mine args") rfl rfl (d1.args ?_))) (by simp) (by simp) (.inl rfl) (.inl rfl) (by walk_at "mine up") (by walk_at "mine up") ?_
  · rw [shr_nat, shr_nat, and_mask, hh, hX]
  refine Ex.pair (FEv.N (EvTN.call (by walk_at "mine fn") (by exact (fnDiv3.ok hW).callee) (by walk_at "mine args") rfl rfl (d2.args ?_))) (by simp) (by simp) (.inl rfl) (.inl rfl) (by walk_at "mine up") (by walk_at "mine up") ?_
  · rw [and_mask]
  have s5 : (Builtin.Int.intBits (q1 : Int) : Int) + h ≤ 2 ^ 27 := by
    have : q1 < 2 ^ (4 * h) := by
      rw [hq1]
      exact Nat.lt_of_le_of_lt (Nat.le_trans (Nat.div_le_self _ _) (by rw [hX]; exact Nat.div_le_self _ _)) hAbits
    have := bits_nat_le this
    omega
  have efin : Builtin.bitOr ((q1 : Int) * 2 ^ ((h : Int)).toNat) (q2 : Int) = ((a / b : Nat) : Int) := by
    rw [shl_nat, or_shift _ _ _ hq2lt, e1]
  refine Ex.iff (N₁ := fun Γ' O' => Γ' = ([("a", .int A), ("b", .int B), ("n", .int (n + p : Nat)), ("pad", .int p), ("half_n", .int h), ("mask", .int (2 ^ h - 1)), ("b2", .int b2), ("b1", .int b1), ("q1", .int q1), ("r", .int (a % b : Nat)), ("q2", .int q2)] : Ctx) ∧ O' = []) (by walk_at "mine b") (fun hc => ?_) (fun hc => ?_) fun Γ' O' hN => ?_
  · have hp1 : p = 1 := by simp at hc; omega
    refine Ex.aug rfl (by walk_at "mine ev") (by walk_at "mine op") (by simp) (.inl rfl) (by walk_at "mine up") ?_
    refine Ex.nil ⟨?_, rfl⟩
    have := shr_nat r2 1
    rw [← e2, hp1] at this
    simp only [Nat.pow_one, Nat.mul_div_cancel _ (by omega : 0 < 2)] at this
    rw [← e2, hp1]
    simp only [Nat.pow_one]
    rw [← this]; rfl
  · have hp0 : p = 0 := by simp at hc; omega
    refine Ex.nil ⟨?_, rfl⟩
    rw [← e2, hp0, Nat.pow_zero, Nat.mul_one]; rfl
  obtain ⟨rfl, rfl⟩ := hN
  refine Ex.ret (pv := .tup [.int (a / b : Nat), .int (a % b : Nat)]) (EvTN.eq (by walk_at "mine ev") (by rw [efin])) rfl
end

structure DefIn (sts : List Stmt) where
  name : PySem.Str
  params : Arguments
  body : List Stmt
  scope : Scope
  pos : Pos
  rest : List Stmt
  h : sts = .FunctionDef name params body [] none [] scope none name pos :: rest
noncomputable def d2iIn : DefIn fnD2i.body := ⟨_, _, _, _, _, _, rfl⟩
noncomputable def i2dIn : DefIn fnI2d.body.tail := ⟨_, _, _, _, _, _, rfl⟩

/-! digits -/
noncomputable def dval (n : Nat) : List Nat → Nat
  | [] => 0
  | d :: ds => d + 2 ^ n * dval n ds
theorem dval_append (n : Nat) : ∀ xs ys : List Nat, dval n (xs ++ ys) = dval n xs + 2 ^ (n * xs.length) * dval n ys
  | [], ys => by simp [dval]
  | x :: xs, ys => by
    simp only [List.cons_append, dval, dval_append n xs ys, List.length_cons, Nat.mul_add, Nat.mul_one, Nat.pow_add]
    rw [Nat.mul_comm (2 ^ (n * xs.length)) (2 ^ n), Nat.mul_assoc]; omega
noncomputable def sl (ds : List Nat) (lo hi : Nat) : List Nat := (ds.drop lo).take (hi - lo)
theorem sl_length (ds : List Nat) (lo hi : Nat) (h : hi ≤ ds.length) : (sl ds lo hi).length = hi - lo := by simp [sl]; omega
theorem sl_split (ds : List Nat) (lo mid hi : Nat) (h1 : lo ≤ mid) (h2 : mid ≤ hi) : sl ds lo hi = sl ds lo mid ++ sl ds mid hi := by
  unfold sl
  have e : hi - lo = (mid - lo) + (hi - mid) := by omega
  rw [e, List.take_add, List.drop_drop]
  congr 3
  omega
theorem sl_one (ds : List Nat) (lo : Nat) (h : lo < ds.length) : sl ds lo (lo + 1) = [ds[lo]] := by
  unfold sl
  have : lo + 1 - lo = 1 := by omega
  rw [this, List.drop_eq_getElem_cons h]; rfl
theorem sl_mem {ds : List Nat} {lo hi d : Nat} (h : d ∈ sl ds lo hi) : d ∈ ds := List.mem_of_mem_drop (List.mem_of_mem_take h)
theorem sl_all (ds : List Nat) : sl ds 0 ds.length = ds := by simp [sl]
theorem dval_lt (n m : Nat) : ∀ ds : List Nat, (∀ d ∈ ds, d < 2 ^ m) → dval n ds < 2 ^ (m + (n + 1) * ds.length)
  | [], _ => by simp [dval]; exact Nat.two_pow_pos _
  | d :: ds, h => by
    have ih := dval_lt n m ds fun x hx => h x (.tail _ hx)
    have hd := h d (.head _)
    have e : m + (n + 1) * (d :: ds).length = (n + (m + (n + 1) * ds.length)) + 1 := by simp only [List.length_cons, Nat.mul_add]; omega
    rw [e, Nat.pow_succ, Nat.pow_add 2 n]
    have h1 : 2 ^ n * dval n ds < 2 ^ n * 2 ^ (m + (n + 1) * ds.length) := Nat.mul_lt_mul_of_pos_left ih (Nat.two_pow_pos n)
    have h2 : 2 ^ m ≤ 2 ^ n * 2 ^ (m + (n + 1) * ds.length) := by rw [← Nat.pow_add]; exact Nat.pow_le_pow_right (by omega) (by omega)
    simp only [dval]
    omega

noncomputable def natPV (ds : List Nat) : List PV := ds.map fun (d : Nat) => PV.int (d : Int)

section
variable {W : Wd}

theorem sp_d2i_inner {ds : List Nat} {n m : Nat} {f c' : Addr} {clos : List (PySem.Str × Addr)} {doc pm ctv : Value} (hds : ∀ d ∈ ds, d < 2 ^ m) (hm : m ≤ 20000) (hn : n ≤ 20000) (hlen : ds.length ≤ 64)
    (hf : FnC W f (fnX d2iIn.name "_digits2int.<locals>.inner" d2iIn.params d2iIn.body d2iIn.scope clos .none .none doc pm none (.ref c') ctv) d2iIn.body) (hcinj : ∀ x y c, clos.lookup x = some c → clos.lookup y = some c → x = y)
    (hdig : ∀ g l, Glob W g → ∃ c v, clos.lookup ("digits" : PySem.Str) = some c ∧ g.IsCell c (some v) ∧ VRep (fun _ => True) l g v (.list (natPV ds)))
    (hnn : ∀ g l, Glob W g → ∃ c v, clos.lookup ("n" : PySem.Str) = some c ∧ g.IsCell c (some v) ∧ VRep (fun _ => True) l g v (.int n))
    (hin : ∀ g, Glob W g → ∃ c, clos.lookup ("inner" : PySem.Str) = some c ∧ g.IsCell c (some (.ref f))) :
    ∀ k lo hi : Nat, lo < hi → hi ≤ ds.length → hi - lo ≤ k → CallSp W k (.ref f) [.int lo, .int hi] (.int (dval n (sl ds lo hi) : Nat)) := by
  intro k
  induction k with
  | zero => intro lo hi h1 h2 h3; omega
  | succ k ih =>
    intro lo hi h1 h2 h3
    refine CallSp.fnC (names := ["L", "R"]) (φ := [("digits", .list (natPV ds)), ("n", .int n)]) hf rfl (by simp [PV.imm]) (by decide) (bind2 rfl fun _ _ => rfl) (by intro x hx; simp at hx; rcases hx with rfl | rfl <;> rfl) hcinj (fun x pv hx => ?_) fun L => ?_
    · rw [List.lookup_cons] at hx
      split at hx
      · rename_i e; cases hx; rw [beq_iff_eq.mp e]; exact ⟨rfl, hdig⟩
      · rw [List.lookup_cons] at hx
        split at hx
        · rename_i e; cases hx; rw [beq_iff_eq.mp e]; exact ⟨rfl, hnn⟩
        · cases hx
    show Ex W k _ [("L", .int lo), ("R", .int hi), ("digits", .list (natPV ds)), ("n", .int n)] [] _ _ _
    refine Ex.ifRet (by walk_at "mine b") (fun hc => ?_) fun hc => ?_
    · have hc' : lo + 1 = hi := by have := beq_iff_eq.mp hc; omega
      subst hc'
      refine Ex.ret (pv := .int (ds[lo] : Nat)) (EvT.imm (EvT.item (k := (lo : Int)) (by walk_at "mine ev") (by walk_at "mine ev") (by omega) (by omega) ?_ (fun _ _ => rfl)) rfl) (by rw [sl_one ds lo (by omega)]; simp [dval])
      rw [natPV, List.getElem?_map, Int.toNat_natCast, List.getElem?_eq_getElem (by omega)]; rfl
    have hc' : lo + 1 ≠ hi := by have := beq_eq_false_iff_ne.mp hc; omega
    obtain ⟨mid, hmid⟩ : ∃ mid, mid = (lo + hi) / 2 := ⟨_, rfl⟩
    have hml : lo < mid := by omega
    have hmh : mid < hi := by omega
    refine Ex.assign (pv := .int (mid : Nat)) (FEv.N (EvTN.eq (by walk_at "mine ev") ?_)) (by simp) (.inl rfl) (by walk_at "mine up") ?_
    · have := shr_nat (lo + hi) 1
      simp only [Nat.pow_one] at this
      rw [← hmid] at this
      exact congrArg PV.int this
    have s1 : IntMulOk ((mid : Int) - lo) (n : Int) := by
      have e : ((mid : Int) - lo) = ((mid - lo : Nat) : Int) := by omega
      rw [e]
      exact IntMulOk.of_le (m := 64) (n := 64) (bits_nat_le (Nat.lt_of_le_of_lt (by omega : mid - lo ≤ 64) (by decide))) (bits_nat_le (Nat.lt_of_le_of_lt hn (by decide))) (by omega)
    refine Ex.assign (pv := .int ((mid - lo) * n : Nat)) (FEv.N (EvTN.eq (by walk_at "mine ev") ?_)) (by simp) (.inl rfl) (by walk_at "mine up") ?_
    · congr 1
      rw [Int.natCast_mul, Int.ofNat_sub (by omega)]
    have hs0 : (0 : Int) ≤ ((mid - lo) * n : Nat) := by omega
    have hsl : (mid - lo) * n ≤ 64 * 20000 := Nat.mul_le_mul (by omega) hn
    have hb2 : dval n (sl ds mid hi) < 2 ^ (20000 + 20001 * 64) := by
      refine Nat.lt_of_lt_of_le (dval_lt n m (sl ds mid hi) fun d hd => hds d (sl_mem hd)) (Nat.pow_le_pow_right (by omega) ?_)
      have : (n + 1) * (sl ds mid hi).length ≤ 20001 * 64 := Nat.mul_le_mul (by omega) (by rw [sl_length _ _ _ h2]; omega)
      omega
    have s2 : (Builtin.Int.intBits ((dval n (sl ds mid hi) : Nat) : Int) : Int) + ((mid - lo) * n : Nat) ≤ 2 ^ 27 := by
      have := bits_nat_le hb2
      omega
    have hrd : ∀ g h, Glob W g → HLe g h → Reads1 (envC (fnX d2iIn.name "_digits2int.<locals>.inner" d2iIn.params d2iIn.body d2iIn.scope clos .none .none doc pm none (.ref c') ctv) L f) h "inner" (.ref f) := fun g h hg hle => by
      obtain ⟨c, q1, q2⟩ := hin g hg
      exact .cell (.inr rfl) q1 (q2.keeps hle)
    refine Ex.ret (EvTN.eq (EvTN.binop (EvTN.ev (EvTN.binop (EvTN.ev (EvTN.callC hrd hf.callee (by walk_at "mine args") rfl rfl (ih mid hi hmh h2 (by omega)))) (by walk_at "mine ev") (Op2.shl hs0 s2)))
      (EvTN.ev (EvTN.callC hrd hf.callee (by walk_at "mine args") rfl rfl (ih lo mid hml (by omega) (by omega)))) Op2.add) ?_) rfl
    rw [shl_nat, sl_split ds lo mid hi (by omega) (by omega), dval_append, sl_length _ _ _ (by omega), Nat.mul_comm n (mid - lo)]
    congr 1
    rw [Nat.mul_comm (2 ^ _)]; omega
end

/-- the tables of the two functions within functions -/
structure TOk (W : Wd) : Prop where
  d2i : TabW W 55 51 d2iIn.pos "_digits2int.<locals>.inner"
  i2d : TabW W 48 44 i2dIn.pos "_int2digits.<locals>.inner"
  gi : ∀ h h', HLe h h' → W.GI h → W.GI h'

noncomputable def Intish (pv : PV) : Prop := (∃ i, pv = .int i) ∨ ∃ ns : List Int, pv = .list (ns.map .int)
theorem Intish.any {V : Addr → Prop} {l l' : Lab} {h : Heap} {v : Value} {pv : PV} (hi : Intish pv) (r : VRep V l h v pv) : VRep V l' h v pv := by
  rcases hi with ⟨i, rfl⟩ | ⟨ns, rfl⟩
  · cases r; exact .int _ _
  · cases r with
    | list ha hp hs => exact .list ha hp (IntsAre.vreps hs.ints)

/-- what is known of a function within, in a ground -/
structure NestG (env : Env) (Γ : Ctx) (name : PySem.Str) (f : Addr) (o : Obj) (code : Value) (qual : PySem.Str) (h : Heap) : Prop where
  cell : ∃ c, env.cells.lookup name = some c ∧ h.IsCell c (some (.ref f))
  fn : h.get? f = some o
  code : h.CodeRec code qual
  vals : ∀ x pv, Γ.lookup x = some pv → env.kindOf x = some .cell → Intish pv → ∃ c v, env.cells.lookup x = some c ∧ h.IsCell c (some v) ∧ ∀ l, VRep (fun _ => True) l h v pv

theorem ground_le {W : Wd} {g : Heap} {l : Lab} {s : Shared} (hB : Base W g l s) (hid : List Addr) (hh : ∀ a ∈ hid, g.get? a = none) : HLe g (hideAll s.heap (hid ++ W.tabs)) := fun b o e =>
  hideAll_get _ (hB.le _ _ e) fun hm => by
    rcases List.mem_append.mp hm with q | q
    · rw [hh b q] at e; cases e
    · rw [hB.gl.notab b q] at e; cases e

theorem Fm.ground {W : Wd} {env : Env} {Γ : Ctx} {O : List PySem.Str} {ω : PySem.Str → Addr} {g : Heap} {l0 l : Lab} {s0 s : Shared} (F : Fm W env Γ.loc O ω g l0 s0 l s) (hgi : ∀ h h', HLe h h' → W.GI h → W.GI h') (hid : List Addr) (hh : ∀ a ∈ hid, g.get? a = none)
    {G : Heap → Prop} (hG : G (hideAll s.heap (hid ++ W.tabs))) : Base (W.plus G) (hideAll s.heap (hid ++ W.tabs)) l s :=
  F.base.ground (ground_le F.base hid hh) (fun b o e => of_hideAll _ e) (fun P hP => hideAll_none _ (List.mem_append_right _ hP)) (hgi _ _ (ground_le F.base hid hh)) hG

theorem Fm.nestG {W : Wd} {env : Env} {Γ : Ctx} {O : List PySem.Str} {ω : PySem.Str → Addr} {g : Heap} {l0 l : Lab} {s0 s : Shared} {c P : Addr} {pos : Pos} {qual : PySem.Str} (T : TabW W c P pos qual) (F : Fm W env Γ.loc O ω g l0 s0 l s) {name : PySem.Str} {f : Addr} {o : Obj} {code : Value} {qual : PySem.Str} (hid : List Addr)
    (hk : env.kindOf name = some .cell) (hr : Reads1 env s.heap name (.ref f)) (hf : s.heap.get? f = some o) (hfd : ∃ fd, o.data = .func fd) (hc : s.heap.CodeRec code qual)
    {Γ₂ : Ctx} (hhid : ∀ a ∈ hid, ∃ o, s.heap.get? a = some o ∧ ∃ its n, o.data = .seq its n) (hval : ∀ x pv, Γ₂.lookup x = some pv → env.kindOf x = some .cell → Intish pv → Γ.lookup x = some pv ∧ x ∉ O ∧ ∀ v a, Reads1 env s.heap x v → v = .ref a → a ∉ hid) :
    NestG env Γ₂ name f o code qual (hideAll s.heap (hid ++ W.tabs)) := by
  have seen : ∀ b o, s.heap.get? b = some o → b ∉ W.tabs → (∀ its n, o.data ≠ .seq its n) → (hideAll s.heap (hid ++ W.tabs)).get? b = some o := fun b o e ht hs => hideAll_get _ e fun hm => by
    rcases List.mem_append.mp hm with q | q
    · obtain ⟨o', e', its, n, hd⟩ := hhid b q
      rw [e] at e'; cases e'; exact hs _ _ hd
    · exact ht q
  refine ⟨?_, seen _ _ hf (fun q => ?_) (fun its n q => ?_), ?_, fun x pv hx hkx hi => ?_⟩
  · cases hr with
    | loc h1 _ _ => rw [hk] at h1; cases h1
    | cell h1 h2 h3 =>
      have nt := cell_notab F.ti h3
      obtain ⟨oc, q1, q2⟩ := h3
      exact ⟨_, h2, oc, seen _ _ q1 nt (fun its n q => by rw [q2] at q; cases q), q2⟩
  · obtain ⟨ps, e⟩ := W.ti_tab F.ti _ q
    obtain ⟨fd, hfd⟩ := hfd
    rw [hf] at e; cases e; cases hfd
  · obtain ⟨fd, hfd⟩ := hfd; rw [hfd] at q; cases q
  · obtain ⟨cc, oc, vs, t, q1, q2, q3, q4⟩ := hc
    refine ⟨cc, oc, vs, t, q1, seen _ _ q2 (fun q => ?_) (fun its n q => by rw [q3] at q; cases q), q3, q4⟩
    obtain ⟨ps, e⟩ := W.ti_tab F.ti _ q
    rw [q2] at e; cases e; cases q3
    exact T.nost _ F.ti _ q _ q2 _ _ q4
  · obtain ⟨hx, hxO, hnh⟩ := hval x pv hx hkx hi
    obtain ⟨v, h1, h2⟩ := F.val x pv hx hxO
    have hnh' := hnh v
    cases h1 with
    | loc q1 _ _ => rw [hkx] at q1; cases q1
    | cell q1 q2 q3 =>
      have nt := cell_notab F.ti q3
      obtain ⟨oc, e1, e2⟩ := id q3
      refine ⟨_, v, q2, ⟨oc, seen _ _ e1 nt (fun its n q => by rw [e2] at q; cases q), e2⟩, fun l' => ?_⟩
      rcases id hi with ⟨i, rfl⟩ | ⟨ns, rfl⟩
      · cases h2; exact .int _ _
      · cases h2 with
        | @list a vs _ ha hp hs =>
          obtain ⟨nn, hp⟩ := hp
          refine .list trivial ⟨nn, hideAll_get _ hp fun hm => ?_⟩ (IntsAre.vreps hs.ints)
          rcases List.mem_append.mp hm with q | q
          · exact hnh' a (.cell q1 q2 q3) rfl q
          · exact seq_notab F.ti hp ⟨_, _, rfl⟩ q

theorem Ex.nestRet {W : Wd} {d : Nat} {env : Env} {Γ : Ctx} {c P : Addr} {name qual : PySem.Str} {params : Arguments} {body : List Stmt} {scope : Scope} {pos rpos : Pos} {e : Expr} {rest : List Stmt} {pv : PV} {N : Ctx → List PySem.Str → Prop} {R : PV → Prop} (T : TabW W c P pos qual) (hgi : ∀ h h', HLe h h' → W.GI h → W.GI h')
    (hcode : env.code = .ref c) (hq : qualnameIn env name name = qual) (hk : env.kindOf name = some .cell) (hΓ : Γ.lookup name = none)
    (hd0 : params.defaults = []) (hk0 : params.kw_defaults = []) (ha : annTrees params none env = []) (hfree : ∀ p ∈ scope.names, p.2 = .free → (env.cells.lookup p.1).isSome = true)
    (he : ∀ f clos doc pm c' ctv, ClOk scope env clos → (∀ x y c, clos.lookup x = some c → clos.lookup y = some c → x = y) → EvTN (W.plus (NestG env Γ name f (fnMade name qual params body scope clos doc pm c' ctv) (.ref c') qual)) d env Γ.loc (eval e env) pv) (hR : R pv) :
    Ex W d env Γ [] (.FunctionDef name params body [] none [] scope none name pos :: .Return (some e) rpos :: rest) N R := fun ω g l0 s0 l A s E hRm F => by
  refine wpAny_execs_cons (nest_def T F hcode hq (.inr hk) (by simp) hΓ hd0 hk0 ha hfree fun s' f clos doc c' ctv st F₁ hr hf hc hclo hinj hff => ?_)
  have nG := F₁.nestG T [] hk hr hf ⟨_, rfl⟩ hc (fun a h => nomatch h) fun x pv hx _ _ => ⟨hx, by simp, fun _ _ _ _ => by simp⟩
  have hB := F₁.ground hgi [] (fun a h => nomatch h) nG
  refine wpAny_execs_cons (wpAny_Return_some (wpAny_hm (wpAny_mono (he f clos doc _ c' ctv hclo hinj _ l (fun _ => True) A s' E hRm hB F₁.envOk) (fun v s₁ q₁ hm => ?_) fun _ _ q => q)))
  obtain ⟨l₁, e₁, r₁⟩ := q₁
  exact ⟨l₁, st.trans (e₁.minus.stp (M := fun _ => False) hm) fun _ q => q.elim, pv, hR, r₁.wid fun a ha => fresh_of_ext F₁.ext.toExt0 a ha⟩

theorem freeOk (fd : FuncData) (scope : Scope) (h : scope.names.all (fun p => p.2 != .free || fd.scope.names.lookup p.1 == some .cell) = true) {L a : Addr} : ∀ p ∈ scope.names, p.2 = .free → ((callEnvC fd L a).cells.lookup p.1).isSome = true := fun p hp hk => by
  have := List.all_eq_true.mp h p hp
  simp only [Bool.or_eq_true, bne_iff_ne, ne_eq, beq_iff_eq] at this
  exact cellsFrom_some _ _ _ _ (this.resolve_left fun q => q hk)

theorem natPV_ints (ds : List Nat) : natPV ds = (ds.map fun (d : Nat) => (d : Int)).map PV.int := by simp [natPV]

section
variable {W : Wd} (hW : WOk W) (hT : TOk W)
include hW hT

theorem sp_d2i {ds : List Nat} {n m : Nat} (hds : ∀ d ∈ ds, d < 2 ^ m) (hm : m ≤ 20000) (hn : n ≤ 20000) (hlen : ds.length ≤ 64) : CallSp W (ds.length + 1) (.ref 56) [.list (natPV ds), .int n] (.int (dval n ds : Nat)) := by
  refine callSp fnD2i hW ["digits", "n"] rfl (bind2 rfl fun _ _ => rfl) fun L => ?_
  show Ex W ds.length _ [("digits", .list (natPV ds)), ("n", .int n)] [] _ _ _
  refine Ex.nestRet (pv := .int (dval n ds : Nat)) hT.d2i hT.gi rfl rfl rfl rfl rfl rfl rfl (freeOk fnD2i.fd d2iIn.scope rfl) (fun f clos doc pm c' ctv hclo hinj => ?_) rfl
  have e0 : ((natPV ds).length : Int) < 2 ^ 63 := by simp [natPV]; omega
  refine EvTN.ite (b := !(natPV ds).isEmpty) (EvB.val (by walk_at "mine ev") (Truth.list e0) (fun _ => rfl)) (fun hb => ?_) (fun hb => ?_)
  · have hne : 0 < ds.length := by cases ds with
      | nil => simp [natPV] at hb
      | cons _ _ => simp
    generalize hW' : W.plus _ = W'
    have gi : ∀ g, Glob W' g → NestG (callEnvC fnD2i.fd L 56) [("digits", .list (natPV ds)), ("n", .int n)] "inner" f (fnMade "inner" "_digits2int.<locals>.inner" d2iIn.params d2iIn.body d2iIn.scope clos doc pm c' ctv) (.ref c') "_digits2int.<locals>.inner" g := by subst hW'; exact fun g hg => hg.gi.2
    have hf : FnC W' f (fnX d2iIn.name "_digits2int.<locals>.inner" d2iIn.params d2iIn.body d2iIn.scope clos .none .none doc pm none (.ref c') ctv) d2iIn.body :=
      ⟨fun g hg => ⟨_, (gi g hg).fn, rfl⟩, fun g hg => (gi g hg).code, rfl, rfl, rfl, rfl, rfl, rfl, (show ∀ x ∈ d2iIn.scope.names, x.2 ≠ .cell by decide)⟩
    have val : ∀ x pv, ([("digits", .list (natPV ds)), ("n", .int n)] : Ctx).lookup x = some pv → (callEnvC fnD2i.fd L 56).kindOf x = some .cell → Intish pv → (x, NameKind.free) ∈ d2iIn.scope.names → ∀ g l, Glob W' g → ∃ c v, clos.lookup x = some c ∧ g.IsCell c (some v) ∧ VRep (fun _ => True) l g v pv := fun x pv h1 h2 h3 h4 g l hg => by
      obtain ⟨c, v, q1, q2, q3⟩ := (gi g hg).vals x pv h1 h2 h3
      exact ⟨c, v, (hclo x h4).trans q1, q2, q3 l⟩
    have hinn : ∀ g, Glob W' g → ∃ c, clos.lookup ("inner" : PySem.Str) = some c ∧ g.IsCell c (some (.ref f)) := fun g hg => by
      obtain ⟨c, q1, q2⟩ := (gi g hg).cell
      exact ⟨c, (hclo "inner" (by decide)).trans q1, q2⟩
    have hin := sp_d2i_inner (W := W') hds hm hn hlen hf hinj (val _ _ rfl rfl (.inr ⟨_, congrArg PV.list (natPV_ints ds)⟩) (by decide)) (val _ _ rfl rfl (.inl ⟨_, rfl⟩) (by decide)) hinn ds.length 0 ds.length hne (Nat.le_refl _) (by omega)
    rw [sl_all] at hin
    have hWp : WOk W' := by subst hW'; exact ⟨hW.K, hW.g, hW.b⟩
    have hrd : ∀ g h, Glob W' g → HLe g h → Reads1 (callEnvC fnD2i.fd L 56) h "inner" (.ref f) := fun g h hg hle => by
      obtain ⟨c, q1, q2⟩ := (gi g hg).cell
      exact .cell (.inl rfl) q1 (q2.keeps hle)
    refine EvTN.callC hrd hf.callee (EvL.cons (by walk_at "mine ev") (EvL.cons (EvTN.ev (EvTN.call (gnb hWp rfl (fun P => rfl) rfl (by decide)) (.inl ⟨_, rfl⟩) (by walk_at "mine args") rfl rfl (CallSp.lenl e0))) EvL.nil rfl) rfl) rfl rfl (hin.args ?_)
    simp [natPV]
  · have : ds = [] := by cases ds with
      | nil => rfl
      | cons _ _ => simp [natPV] at hb
    subst this
    exact EvTN.cint
end

/-- the digits of x, k of them -/
noncomputable def digs (n : Nat) : Nat → Nat → List Nat
  | 0, _ => []
  | k + 1, x => x % 2 ^ n :: digs n k (x / 2 ^ n)
theorem digs_length (n : Nat) : ∀ k x, (digs n k x).length = k
  | 0, _ => rfl
  | k + 1, x => by simp [digs, digs_length n k]
theorem digs_add (n : Nat) : ∀ a b x, digs n (a + b) x = digs n a (x % 2 ^ (n * a)) ++ digs n b (x / 2 ^ (n * a))
  | 0, b, x => by simp [digs]
  | a + 1, b, x => by
    have e : a + 1 + b = (a + b) + 1 := by omega
    rw [e]
    simp only [digs, digs_add n a b, List.cons_append]
    have h1 : x % 2 ^ (n * (a + 1)) % 2 ^ n = x % 2 ^ n := Nat.mod_mod_of_dvd _ (by rw [Nat.mul_add, Nat.mul_one, Nat.pow_add]; exact Nat.dvd_mul_left _ _)
    have h2 : x % 2 ^ (n * (a + 1)) / 2 ^ n = x / 2 ^ n % 2 ^ (n * a) := by
      rw [Nat.mul_add, Nat.mul_one, Nat.add_comm, Nat.pow_add, Nat.mod_mul_right_div_self]
    have h3 : x / 2 ^ (n * (a + 1)) = x / 2 ^ n / 2 ^ (n * a) := by
      rw [Nat.mul_add, Nat.mul_one, Nat.add_comm, Nat.pow_add, Nat.div_div_eq_div_mul]
    rw [h1, h2, h3]
theorem digs_mem (n : Nat) : ∀ k x d, d ∈ digs n k x → d < 2 ^ n
  | 0, _, _, h => nomatch h
  | k + 1, x, d, h => by
    rcases List.mem_cons.mp h with rfl | h
    · exact Nat.mod_lt _ (Nat.two_pow_pos n)
    · exact digs_mem n k _ d h
theorem dval_digs (n : Nat) : ∀ k x, x < 2 ^ (n * k) → dval n (digs n k x) = x
  | 0, x, h => by simp at h; subst h; rfl
  | k + 1, x, h => by
    rw [Nat.mul_add, Nat.mul_one, Nat.add_comm, Nat.pow_add] at h
    simp only [digs, dval]
    rw [dval_digs n k _ (Nat.div_lt_of_lt_mul h)]
    exact Nat.mod_add_div x (2 ^ n)
/-- digits put into a list -/
noncomputable def put (n : Nat) (ds : List Nat) (lo hi x : Nat) : List Nat := ds.take lo ++ digs n (hi - lo) x ++ ds.drop hi
theorem put_length {n : Nat} {ds : List Nat} {lo hi x : Nat} (h1 : lo ≤ hi) (h2 : hi ≤ ds.length) : (put n ds lo hi x).length = ds.length := by
  simp [put, digs_length]; omega
theorem put_one {n : Nat} {ds : List Nat} {lo x : Nat} (h : lo < ds.length) (hx : x < 2 ^ n) : put n ds lo (lo + 1) x = ds.set lo x := by
  unfold put
  have : lo + 1 - lo = 1 := by omega
  rw [this]
  simp only [digs, Nat.mod_eq_of_lt hx]
  rw [List.set_eq_take_append_cons_drop, if_pos h]; simp
theorem put_put {n : Nat} {ds : List Nat} {lo mid hi x : Nat} (h1 : lo ≤ mid) (h2 : mid ≤ hi) (h3 : hi ≤ ds.length) :
    put n (put n ds lo mid (x % 2 ^ (n * (mid - lo)))) mid hi (x / 2 ^ (n * (mid - lo))) = put n ds lo hi x := by
  unfold put
  have e : hi - lo = (mid - lo) + (hi - mid) := by omega
  have l1 : (ds.take lo ++ digs n (mid - lo) (x % 2 ^ (n * (mid - lo)))).length = mid := by simp [digs_length]; omega
  have t : (ds.take lo ++ digs n (mid - lo) (x % 2 ^ (n * (mid - lo))) ++ ds.drop mid).take mid = ds.take lo ++ digs n (mid - lo) (x % 2 ^ (n * (mid - lo))) := by
    rw [List.take_append_of_le_length (by omega)]; exact List.take_of_length_le (by omega)
  have dd : (ds.take lo ++ digs n (mid - lo) (x % 2 ^ (n * (mid - lo))) ++ ds.drop mid).drop hi = ds.drop hi := by
    rw [List.drop_append, List.drop_of_length_le (by omega), l1, List.drop_drop]
    simp; congr 1; omega
  rw [t, dd, e, digs_add]
  simp

/-- a call as a statement, of a name in a cell, that changes an owned list -/
theorem Ex.callOwn {W : Wd} {d : Nat} {env : Env} {Γ Γ' : Ctx} {O : List PySem.Str} {f x : PySem.Str} {p cpos pos : Pos} {e : Expr} {rest : List Expr} {sts : List Stmt} {fv : Value} {as xs' : List PV} {N : Ctx → List PySem.Str → Prop} {R : PV → Prop} (hx : x ∈ O)
    (hr : ∀ g h, Glob W g → HLe g h → Reads1 env h f fv) (hf : Callee W fv) (ha : EvL W d env Γ.loc (e :: rest) as)
    (hcall : ∀ ω g l0 s0 l s A E vs, Rm d A → Fm W env Γ.loc O ω g l0 s0 l s → VReps (fun _ => True) l s.heap vs as →
      wpAny W.M A (call fv vs) (fun v s' => v = .none ∧ ∃ l' vs', Stp W (fun b => b = ω x) l s l' s' ∧ s'.heap.PlainList (ω x) (List.toArray vs') ∧ VReps (fun _ => False) l' s'.heap vs' xs') E s)
    (hu : Upd x (.list xs') Γ Γ') (hr2 : Ex W d env Γ' O sts N R)
    (he : starEach (e :: rest) env = (false, eval e env) :: starEach rest env := by rfl) (hpl : (backTo cpos (starEach rest env)).any (·.1) = false := by rfl) (hin : interactive env = false := by rfl)
    (hs : swapsWith (.Call (.Name f p) (e :: rest) [] cpos) none pos.line env = pure false := by rfl) (hd : (f == ("__debug__" : PySem.Str)) = false := by rfl) (hcl : (f == ("__classdict__" : PySem.Str)) = false := by rfl) :
    Ex W d env Γ O (.Expr (.Call (.Name f p) (e :: rest) [] cpos) pos :: sts) N R := fun ω g l0 s0 l A s E hRm F => by
  refine wpAny_execs_cons (wpAny_Expr (wpAny_Call_NameR (wpAny_Name ((hr g s.heap F.base.gl F.base.le).load F.fn ?_ hcl) hd)) hin hs)
  refine callWith_any hf (by rw [he]; show (false || (backTo cpos (starEach rest env)).any (·.1)) = false; rw [hpl]; rfl) F.base ?_
  have hm := ha cpos g l (fun _ => True) A s E hRm F.base F.envOk
  rw [he] at hm ⊢
  refine Calls.evalArgs_plain (x := eval e env) (rest := backTo cpos (starEach rest env)) (wpAny_hm (wpAny_mono hm (fun vs s₁ q₁ hm₁ => ?_) fun _ _ x => x))
  obtain ⟨l₁, e1, r1⟩ := q₁
  have F₁ := F.step e1
  refine ⟨⟨_, e1⟩, wpAny_mono (hcall ω g l0 s0 l₁ s₁ A E vs hRm F₁ (r1.wid fun _ _ => trivial)) (fun v s₂ q₂ => ?_) fun _ _ x => x⟩
  obtain ⟨rfl, l₂, vs', st, hp, hv⟩ := q₂
  have F₂ := F₁.updateStp hx st hp hv
  rw [← hu.loc] at F₂
  exact wpAny_mono (hr2 ω g l0 s0 l₂ A s₂ E hRm F₂) (fun fl s' q' => q'.thread ((e1.stp hm₁).trans st fun b q => .inl (.inr (.inr ⟨x, hx, q⟩))) Grow.refl) fun _ _ q => q

/-- one store into an owned list -/
theorem ExT.setItem1 {W : Wd} {d : Nat} {env : Env} {Γ Γ' : Ctx} {O : List PySem.Str} {x : PySem.Str} {px spos pos : Pos} {i e : Expr} {xs : List PV} {k : Int} {pv : PV} {R : PV → Prop} (hx : x ∈ O) (hxs : Γ.lookup x = some (.list xs)) (he : FEv W d env Γ O (eval e env) pv)
    (hi : EvTN W d env Γ.loc (eval i env) (.int k)) (h0 : 0 ≤ k) (h63 : k < 2 ^ 63) (hk : k < xs.length) (hu : Upd x (.list (xs.set k.toNat pv)) Γ Γ')
    (hs : swapsWith e (some (.Subscript (.Name x px) i spos)) pos.line env = pure false := by rfl) (hd : (x == ("__debug__" : PySem.Str)) = false := by rfl) (hc : (x == ("__classdict__" : PySem.Str)) = false := by rfl) :
    ExT W d env Γ O (exec (.Assign [.Subscript (.Name x px) i spos] e pos) env) (fun a b => a = Γ' ∧ b = O) R := fun ω g l0 s0 l A s E hR F => by
  refine wpAny_Assign_Subscript (wpAny_hm (wpAny_mono (he ω g l0 s0 l A s E hR F) (fun v s₁ q₁ hm₁ => ?_) fun _ _ q => q)) hs
  obtain ⟨l₁, e₁, r₁⟩ := q₁
  have F₁ := F.step e₁
  obtain ⟨ys, vs, h1, h2, h3, h4, h5⟩ := F₁.own x hx
  rw [show Γ.loc x = some (.list xs) from hxs] at h1; cases h1
  refine wpAny_Name (h2.load F.fn ?_ hc) hd
  refine wpAny_hm (wpAny_mono (hi g l₁ _ A s₁ E hR F₁.base F₁.envOk) (fun iv s₂ q₂ hm₂ => ?_) fun _ _ q => q)
  obtain ⟨l₂, e₂, r₂⟩ := q₂
  cases r₂
  have F₂ := F₁.step e₂
  have h3' : s₂.heap.PlainList (ω x) vs.toArray := by obtain ⟨n, h3⟩ := h3; exact ⟨n, e₂.keep _ _ (seq_notab F₁.ti h3 ⟨_, _, rfl⟩) h3⟩
  refine setItem_plain h3' h0 h63 (by simpa [h4.length] using hk) fun h' hp hsb => ?_
  rw [set_toArray] at hp
  obtain ⟨st, F₃⟩ := F₂.update (tk := s₂.toks) hx hsb hp ((h4.ext F₁.ti e₂ fun _ q => q).set (r₁.ext F₁.ti e₂ fun _ q => q) k.toNat) (Nat.le_refl _)
  rw [← hu.loc] at F₃
  exact ⟨l₂, (((e₁.trans e₂).stp (hm₁.trans hm₂))).trans st fun _ q => .inl q, Γ', O, ω, ⟨rfl, rfl⟩, F₃, Grow.refl⟩

section
variable {W : Wd}

theorem i2d_inner {n f c' D : Nat} {clos : List (PySem.Str × Addr)} {doc pm ctv : Value} (hn1 : 1 ≤ n) (hn : n ≤ 20000)
    (hf : FnC W f (fnX i2dIn.name "_int2digits.<locals>.inner" i2dIn.params i2dIn.body i2dIn.scope clos .none .none doc pm none (.ref c') ctv) i2dIn.body) (hcinj : ∀ x y c, clos.lookup x = some c → clos.lookup y = some c → x = y)
    (hdig : ∀ g, Glob W g → ∃ c, clos.lookup ("a_digits" : PySem.Str) = some c ∧ g.IsCell c (some (.ref D)))
    (hnn : ∀ g l, Glob W g → ∃ c v, clos.lookup ("n" : PySem.Str) = some c ∧ g.IsCell c (some v) ∧ VRep (fun _ => True) l g v (.int n))
    (hin : ∀ g, Glob W g → ∃ c, clos.lookup ("inner" : PySem.Str) = some c ∧ g.IsCell c (some (.ref f))) :
    ∀ k lo hi x : Nat, lo < hi → hi - lo ≤ k → x < 2 ^ (n * (hi - lo)) → ∀ ds : List Nat, hi ≤ ds.length → ds.length ≤ 64 →
      ∀ g l0 s0 l s A E vs us, Rm k A → Base W g l0 s0 → Ext W l0 s0 l s → Fresh s0 D → s.heap.PlainList D (List.toArray us) → VReps (fun _ => True) l s.heap us (natPV ds) → VReps (fun _ => True) l s.heap vs [.int x, .int lo, .int hi] →
      wpAny W.M A (call (.ref f) vs) (fun v s' => v = .none ∧ ∃ l' vs', Stp W (fun b => b = D) l s l' s' ∧ s'.heap.PlainList D (List.toArray vs') ∧ VReps (fun _ => False) l' s'.heap vs' (natPV (put n ds lo hi x))) E s := by
  intro k
  induction k with
  | zero => intro lo hi x h1 h2; omega
  | succ k ih =>
    intro lo hi x h1 h2 hx ds hds h64 g l0 s0 l s A E vs us hR hB0 hext hD hpl hus hvs
    have hB := hB0.ext hext
    have imm : ∀ y ∈ natPV ds, y.imm = true := fun y hy => by obtain ⟨z, _, rfl⟩ := List.mem_map.mp hy; rfl
    match vs, hvs.length with
    | [v1, v2, v3], _ =>
    refine call_closure (names := ["x", "L", "R"]) hf hR hB rfl (by intro x hx; simp at hx; rcases hx with rfl | rfl | rfl <;> rfl) fun h₁ tk E' hns hle htk hm => ?_
    generalize henv : envC (fnX i2dIn.name "_int2digits.<locals>.inner" i2dIn.params i2dIn.body i2dIn.scope clos .none .none doc pm none (.ref c') ctv) s.heap.objs.size f = env at *
    have F0 : Fm W env (Ctx.loc [("x", .int x), ("L", .int lo), ("R", .int hi), ("n", .int n), ("a_digits", .list (natPV ds))]) ["a_digits"] (fun _ => D) g l0 s0 l { s with heap := h₁, toks := tk } := by
      subst henv
      exact Fm.closure (names := ["x", "L", "R"]) (pvs := [.int x, .int lo, .int hi]) (φ := [("n", .int n), ("a_digits", .list (natPV ds))]) hf hB0 hext hvs (by simp [PV.imm]) (by decide) rfl (by intro x hx; simp at hx; rcases hx with rfl | rfl | rfl <;> rfl) hcinj (fun y pv hy hm => by
          rw [List.lookup_cons] at hy
          split at hy
          · rename_i e; cases hy; rw [beq_iff_eq.mp e]
            obtain ⟨c, v, q1, q2, q3⟩ := hnn g l hB.gl
            exact ⟨rfl, c, v, q1, q2.keeps hB.le, (q3.le hB.le).of_imm rfl⟩
          · rw [List.lookup_cons] at hy
            split at hy
            · rename_i e; exact absurd (by rw [beq_iff_eq.mp e]; simp) hm
            · cases hy)
        (fun y hy => by
          simp only [List.mem_singleton] at hy; subst hy
          obtain ⟨c, q1, q2⟩ := hdig g hB.gl
          exact ⟨by decide, _, us, c, rfl, rfl, q1, q2.keeps hB.le, hpl, hus, imm, hD⟩)
        (fun y hy z hz _ => by simp only [List.mem_singleton] at hy hz; rw [hy, hz]) hns hle htk
    have kl : ∀ y, y = "x" ∨ y = "L" ∨ y = "R" ∨ y = "mid" ∨ y = "shift" ∨ y = "upper" ∨ y = "lower" → env.kindOf y = some .local := by
      subst henv; intro y hy; rcases hy with rfl | rfl | rfl | rfl | rfl | rfl | rfl <;> rfl
    -- what the block does
    have main : wpAny W.M (A.deeper env) (execs i2dIn.body env) (fun fl s' => (fl = .next ∨ fl = .ret .none) ∧ ∃ l' Γ' ω', Stp W (Mut env ["a_digits"] (fun _ => D)) l { s with heap := h₁, toks := tk } l' s' ∧
        Γ'.lookup ("a_digits" : PySem.Str) = some (.list (natPV (put n ds lo hi x))) ∧ Fm W env (Ctx.loc Γ') ["a_digits"] ω' g l0 s0 l' s') E' { s with heap := h₁, toks := tk } := by
      have hlen : (natPV ds).length = ds.length := by simp [natPV]
      by_cases hc : lo + 1 = hi
      · subst hc
        have e1 : lo + 1 - lo = 1 := by omega
        rw [e1, Nat.mul_one] at hx
        refine wpAny_execs_cons (wpAny_If (wpAny_hm (wpAny_mono ((show EvB W k env (Ctx.loc [("x", .int x), ("L", .int lo), ("R", .int (lo + 1 : Nat)), ("n", .int n), ("a_digits", .list (natPV ds))]) _ ((lo : Int) + 1 == ((lo + 1 : Nat) : Int)) from by walk_at "mine b") g l _ _ _ _ (hR.deeper _) F0.base F0.envOk) (fun c s₁ q₁ hm₁ => ?_) fun _ _ q => q)))
        obtain ⟨l₁, e₁, rfl⟩ := q₁
        have hb : ((lo : Int) + 1 == ((lo + 1 : Nat) : Int)) = true := by simp
        rw [hb]
        simp only [if_true]
        refine wpAny_execs_cons (wpAny_mono ((ExT.setItem1 (W := W) (d := k) (env := env) (O := ["a_digits"]) (x := "a_digits") (R := fun _ => False) (k := (lo : Int)) (pv := .int x) (Γ := [("x", .int x), ("L", .int lo), ("R", .int (lo + 1 : Nat)), ("n", .int n), ("a_digits", .list (natPV ds))]) (xs := natPV ds) (by simp) rfl (FEv.N (by walk_at "mine ev")) (by walk_at "mine ev") (by omega) (by omega) (by rw [hlen]; omega) (by walk_at "mine up") (hs := by cases henv; rfl) (hd := rfl) (hc := rfl)) (fun _ => D) g l0 s0 l₁ _ s₁ _ (hR.deeper _) (F0.step e₁)) (fun fl s' q => ?_) fun _ _ q => q)
        cases fl with
        | next =>
          obtain ⟨l', st, Γ', O', ω', ⟨rfl, rfl⟩, F', _⟩ := q
          refine wpAny_execs_cons (wpAny_Return_none ⟨.inr rfl, l', _, ω', (e₁.stp hm₁).trans st fun _ q => .inl q, ?_, F'⟩)
          have : natPV (put n ds lo (lo + 1) x) = (natPV ds).set lo (.int x) := by
            rw [put_one (by omega) hx]; simp [natPV, List.map_set]
          rw [this]; rfl
        | ret v => obtain ⟨_, _, pv, q, _⟩ := q; exact q.elim
        | brk => exact absurd q.choose_spec.2 id
        | cont => exact absurd q.choose_spec.2 id
      · have main2 : Ex W k env [("x", .int x), ("L", .int lo), ("R", .int hi), ("n", .int n), ("a_digits", .list (natPV ds))] ["a_digits"] i2dIn.body (fun Γ' O' => O' = (["a_digits"] : List PySem.Str) ∧ Γ'.lookup ("a_digits" : PySem.Str) = some (.list (natPV (put n ds lo hi x)))) (fun _ => False) := by
          obtain ⟨mid, hmid⟩ : ∃ mid, mid = (lo + hi) / 2 := ⟨_, rfl⟩
          have hml : lo < mid := by omega
          have hmh : mid < hi := by omega
          refine Ex.ifRet (by walk_at "mine b") (fun hb => absurd (by have := beq_iff_eq.mp hb; omega) hc) fun _ => ?_
          refine Ex.assign (pv := .int (mid : Nat)) (FEv.N (EvTN.eq (by walk_at "mine ev") ?_)) (by decide) (.inl (kl _ (by simp))) (by walk_at "mine up") ?_ (by cases henv; rfl)
          · have := shr_nat (lo + hi) 1
            simp only [Nat.pow_one] at this
            rw [← hmid] at this
            exact congrArg PV.int this
          have s1 : IntMulOk ((mid : Int) - lo) (n : Int) := by
            have e : ((mid : Int) - lo) = ((mid - lo : Nat) : Int) := by omega
            rw [e]
            exact IntMulOk.of_le (m := 64) (n := 64) (bits_nat_le (Nat.lt_of_le_of_lt (by omega : mid - lo ≤ 64) (by decide))) (bits_nat_le (Nat.lt_of_le_of_lt hn (by decide))) (by omega)
          obtain ⟨sh, hsh⟩ : ∃ sh, sh = n * (mid - lo) := ⟨_, rfl⟩
          refine Ex.assign (pv := .int (sh : Nat)) (FEv.N (EvTN.eq (by walk_at "mine ev") ?_)) (by decide) (.inl (kl _ (by simp))) (by walk_at "mine up") ?_ (by cases henv; rfl)
          · rw [hsh, Int.natCast_mul, Int.ofNat_sub (by omega), Int.mul_comm]
          have hs0 : (0 : Int) ≤ (sh : Nat) := by omega
          have hxsz : x < 2 ^ (20000 * 64) := Nat.lt_of_lt_of_le hx (Nat.pow_le_pow_right (by omega) (Nat.mul_le_mul hn (by omega)))
          have hshsz : sh ≤ 20000 * 64 := by rw [hsh]; exact Nat.mul_le_mul hn (by omega)
          refine Ex.assign (pv := .int (x / 2 ^ sh : Nat)) (FEv.N (EvTN.eq (by walk_at "mine ev") (by rw [shr_nat]))) (by decide) (.inl (kl _ (by simp))) (by walk_at "mine up") ?_ (by cases henv; rfl)
          have s2 : (Builtin.Int.intBits ((x / 2 ^ sh : Nat) : Int) : Int) + (sh : Nat) ≤ 2 ^ 27 := by
            have := bits_nat_le (Nat.lt_of_le_of_lt (Nat.div_le_self x (2 ^ sh)) hxsz)
            omega
          refine Ex.assign (pv := .int (x % 2 ^ sh : Nat)) (FEv.N (EvTN.eq (by walk_at "mine ev") (by rw [shl_nat, xor_high]))) (by decide) (.inl (kl _ (by simp))) (by walk_at "mine up") ?_ (by cases henv; rfl)
          have hrd : ∀ g h, Glob W g → HLe g h → Reads1 env h "inner" (.ref f) := fun g h hg hle => by
            subst henv
            obtain ⟨c, q1, q2⟩ := hin g hg
            exact .cell (.inr rfl) q1 (q2.keeps hle)
          have p1 : x % 2 ^ sh < 2 ^ (n * (mid - lo)) := by rw [← hsh]; exact Nat.mod_lt _ (Nat.two_pow_pos _)
          have p2 : x / 2 ^ sh < 2 ^ (n * (hi - mid)) := by
            refine Nat.div_lt_of_lt_mul ?_
            rw [hsh, ← Nat.pow_add, ← Nat.mul_add]
            have : mid - lo + (hi - mid) = hi - lo := by omega
            rw [this]; exact hx
          have call : ∀ (Γ₁ : Ctx) (ds₁ : List Nat) (lo₁ hi₁ x₁ : Nat), Γ₁.lookup ("a_digits" : PySem.Str) = some (.list (natPV ds₁)) → lo₁ < hi₁ → hi₁ - lo₁ ≤ k → x₁ < 2 ^ (n * (hi₁ - lo₁)) → hi₁ ≤ ds₁.length → ds₁.length ≤ 64 →
              ∀ ω g l0 s0 l s A E vs, Rm k A → Fm W env Γ₁.loc ["a_digits"] ω g l0 s0 l s → VReps (fun _ => True) l s.heap vs [.int x₁, .int lo₁, .int hi₁] →
              wpAny W.M A (call (.ref f) vs) (fun v s' => v = .none ∧ ∃ l' vs', Stp W (fun b => b = ω "a_digits") l s l' s' ∧ s'.heap.PlainList (ω "a_digits") (List.toArray vs') ∧ VReps (fun _ => False) l' s'.heap vs' (natPV (put n ds₁ lo₁ hi₁ x₁))) E s := by
            intro Γ₁ ds₁ lo₁ hi₁ x₁ hΓ₁ a1 a2 a3 a4 a5 ω g l0 s0 l s A E vs hRk F hvv
            obtain ⟨ys, us', q1, q2, q3, q4, q5⟩ := F.own "a_digits" (by simp)
            rw [show Γ₁.loc "a_digits" = some (.list (natPV ds₁)) from hΓ₁] at q1; cases q1
            have hω : ω "a_digits" = D := by
              obtain ⟨c, p1, p2⟩ := hdig g F.base.gl
              cases q2 with
              | loc e1 _ _ =>
                have : env.kindOf "a_digits" = some .free := by subst henv; rfl
                rw [this] at e1; cases e1
              | cell e1 e2 e3 =>
                have e2' : env.cells.lookup ("a_digits" : PySem.Str) = some c := by subst henv; exact p1
                rw [e2'] at e2; cases e2
                obtain ⟨oc, r1, r2⟩ := e3
                obtain ⟨oc', r1', r2'⟩ := p2.keeps F.base.le
                rw [r1] at r1'; cases r1'
                rw [r2] at r2'; cases r2'; rfl
            rw [hω] at q3 q5 ⊢
            exact ih lo₁ hi₁ x₁ a1 a2 a3 ds₁ a4 a5 g l0 s0 l s A E vs us' hRk F.base0 F.ext q5 q3 (q4.wid fun _ _ => trivial) hvv
          refine Ex.callOwn (x := "a_digits") (by simp) hrd hf.callee (by walk_at "mine args") (call _ ds lo mid (x % 2 ^ sh) rfl hml (by omega) p1 (by omega) h64) (by walk_at "mine up") ?_ (hs := by cases henv; rfl) (hin := by cases henv; rfl)
          refine Ex.callOwn (x := "a_digits") (by simp) hrd hf.callee (by walk_at "mine args") (call _ (put n ds lo mid (x % 2 ^ sh)) mid hi (x / 2 ^ sh) rfl hmh (by omega) p2 (by rw [put_length (by omega) (by omega)]; exact hds) (by rw [put_length (by omega) (by omega)]; exact h64)) (by walk_at "mine up") ?_ (hs := by cases henv; rfl) (hin := by cases henv; rfl)
          refine Ex.nil ⟨rfl, ?_⟩
          rw [hsh, put_put (by omega) (by omega) hds]; rfl
        refine wpAny_mono (main2 (fun _ => D) g l0 s0 l _ _ _ (hR.deeper _) F0) (fun fl s' q => ?_) fun _ _ q => q
        cases fl with
        | next =>
          obtain ⟨l', st, Γ', O', ω', ⟨rfl, hΓ⟩, F', _⟩ := q
          exact ⟨.inl rfl, l', Γ', ω', st, hΓ, F'⟩
        | ret v => obtain ⟨_, _, pv, q, _⟩ := q; exact q.elim
        | brk => exact absurd q.choose_spec.2 id
        | cont => exact absurd q.choose_spec.2 id
    refine wpAny_mono main (fun fl s' q => ?_) fun _ _ q => q
    obtain ⟨hfl, l', Γ', ω', st, hΓ, F'⟩ := q
    refine ⟨by rcases hfl with rfl | rfl <;> rfl, l', ?_⟩
    obtain ⟨ys, us', q1, q2, q3, q4, q5⟩ := F'.own "a_digits" (by simp)
    rw [show Γ'.loc "a_digits" = some (.list (natPV (put n ds lo hi x))) from hΓ] at q1; cases q1
    have hω : ω' "a_digits" = D := by
      obtain ⟨c, p1, p2⟩ := hdig g hB.gl
      cases q2 with
      | loc e1 _ _ =>
        have : env.kindOf "a_digits" = some .free := by subst henv; rfl
        rw [this] at e1; cases e1
      | cell e1 e2 e3 =>
        have e2' : env.cells.lookup ("a_digits" : PySem.Str) = some c := by subst henv; exact p1
        rw [e2'] at e2; cases e2
        obtain ⟨oc, r1, r2⟩ := e3
        obtain ⟨oc', r1', r2'⟩ := p2.keeps F'.base.le
        rw [r1] at r1'; cases r1'
        rw [r2] at r2'; cases r2'; rfl
    rw [hω] at q3
    have hloc : env.locals = s.heap.objs.size := by subst henv; rfl
    have hnc : ∀ y, env.kindOf y ≠ some .cell := by
      subst henv; intro y hy
      have hy' : i2dIn.scope.names.lookup y = some .cell := hy
      exact absurd rfl (hf.nocell _ (mem_of_lookupN hy'))
    have ext1 : Ext W l s l { s with heap := h₁, toks := tk } := (Ext0.of_le hB.ti hle).up hB.tok htk
    refine ⟨us', (ext1.stp (M := fun b => b = D) hm).trans st fun b hb => ?_, q3, q4.of_imm fun y hy => by obtain ⟨z, _, rfl⟩ := List.mem_map.mp hy; rfl⟩
    rcases hb with q | ⟨y, q, _⟩ | ⟨y, _, q⟩
    · exact .inr (by rw [q, hloc]; exact fresh_size)
    · exact absurd q (hnc y)
    · exact .inl q
end

theorem evalC {W : Wd} {d : Nat} {env : Env} {σ : Loc} {g : Heap} {l : Lab} {V : Addr → Prop} {A : Around} {s : Shared} {E Q : Value → Shared → Prop} {f : PySem.Str} {p pos : Pos} {e : Expr} {rest : List Expr} {fv : Value} {as : List PV} (hB : Base W g l s) (hE : EnvOk env σ V l s.heap) (hr : Reads1 env s.heap f fv) (hf : Callee W fv)
    (ha : EvL W d env σ (e :: rest) as) (hR : Rm d A) (h : ∀ l₁ s₁ vs, Ext W l s l₁ s₁ → Hm s.heap s₁.heap → VReps (fun _ => True) l₁ s₁.heap vs as → wpAny W.M A (call fv vs) Q E s₁)
    (he : starEach (e :: rest) env = (false, eval e env) :: starEach rest env := by rfl) (hpl : (backTo pos (starEach rest env)).any (·.1) = false := by rfl) (hd : (f == ("__debug__" : PySem.Str)) = false := by rfl) (hcl : (f == ("__classdict__" : PySem.Str)) = false := by rfl) :
    wpAny W.M A (eval (.Call (.Name f p) (e :: rest) [] pos) env) Q E s := by
  refine wpAny_Call_NameR (wpAny_Name (hr.load hE.fn ?_ hcl) hd)
  refine callWith_any hf (by rw [he]; show (false || (backTo pos (starEach rest env)).any (·.1)) = false; rw [hpl]; rfl) hB ?_
  have hm := ha pos g l V A s E hR hB hE
  rw [he] at hm ⊢
  refine Calls.evalArgs_plain (x := eval e env) (rest := backTo pos (starEach rest env)) (wpAny_hm (wpAny_mono hm (fun vs s₁ q₁ hm₁ => ?_) fun _ _ x => x))
  obtain ⟨l₁, e1, r1⟩ := q₁
  exact ⟨⟨_, e1⟩, h l₁ s₁ vs e1 hm₁ (r1.wid fun _ _ => trivial)⟩

section
variable {W : Wd} (hW : WOk W) (hT : TOk W)
include hW hT

theorem sp_i2d {a n N : Nat} (hn1 : 1 ≤ n) (hn : n ≤ 20000) (hN : N = (Builtin.Int.intBits (a : Int) + n - 1) / n) (hN64 : N ≤ 64) : CallSp W (N + 1) (.ref 49) [.int a, .int n] (.list (natPV (digs n N a))) := by
  have hbits : Builtin.Int.intBits (a : Int) ≤ n * N := by
    rw [hN]
    have := Nat.div_add_mod (Builtin.Int.intBits (a : Int) + n - 1) n
    have := Nat.mod_lt (Builtin.Int.intBits (a : Int) + n - 1) (show 0 < n by omega)
    omega
  have ha : a < 2 ^ (n * N) := bits_nat_le_iff.mp hbits
  refine callSp fnI2d hW ["a", "n"] rfl (bind2 rfl fun _ _ => rfl) fun L => ?_
  show Ex W N _ [("a", .int a), ("n", .int n)] [] _ _ _
  generalize henv : callEnvC fnI2d.fd L 49 = env
  have hn0 : (n : Int) ≠ 0 := by omega
  have hp : Builtin.divisionGoesByPylong ((Builtin.Int.intBits (a : Int) : Int) + n - 1) (n : Int) = false := pylong_no (by simp; exact Nat.lt_of_le_of_lt hn (Nat.lt_of_lt_of_le (by decide : 20000 < 2 ^ 20) (Nat.pow_le_pow_right (by omega) (by omega))))
  have hq : ((Builtin.Int.intBits (a : Int) : Int) + n - 1).fdiv n = (N : Int) := by
    have e : ((Builtin.Int.intBits (a : Int) : Int) + n - 1) = ((Builtin.Int.intBits (a : Int) + n - 1 : Nat) : Int) := by omega
    rw [e, fdiv_nat, hN]
  have hq0 : 0 ≤ ((Builtin.Int.intBits (a : Int) : Int) + n - 1).fdiv n := by rw [hq]; omega
  have hq1 : ((Builtin.Int.intBits (a : Int) : Int) + n - 1).fdiv n ≤ 2 ^ 20 := by rw [hq]; omega
  have erep : (List.replicate (((Builtin.Int.intBits (a : Int) : Int) + n - 1).fdiv n).toNat (PV.int 0)) = natPV (List.replicate N 0) := by
    rw [hq, Int.toNat_natCast]; simp [natPV]
  refine Ex.assignOwn (xs := natPV (List.replicate N 0)) (FOwn.N (EvTN.eq (EvTN.binop (EvTN.ev (EvTN.list (EvLN.cons EvTN.cint EvLN.nil rfl) (by simp [sizeLine]))) (by walk_at "mine ev") (Op2.rep rfl hq0 hq1)) (by rw [erep])) (fun y hy => by obtain ⟨z, _, rfl⟩ := List.mem_map.mp hy; rfl)) (by simp) (.inr (by cases henv; rfl)) (by walk_at "mine up") ?_ (by cases henv; rfl)
  intro ω g l0 s0 l A s E hRm F
  replace F : Fm W env (Ctx.loc ([("a", .int a), ("n", .int n), ("a_digits", .list (natPV (List.replicate N 0)))] : Ctx)) ["a_digits"] ω g l0 s0 l s := F
  have hT2 := hT.i2d
  refine wpAny_execs_cons (nest_def hT2 F (by cases henv; rfl) (by cases henv; rfl) (.inr (by cases henv; rfl)) (by decide) rfl rfl rfl (by cases henv; rfl) (by cases henv; exact freeOk fnI2d.fd i2dIn.scope rfl) fun s₁ f clos doc c' ctv st F₁ hr hf hc hclo hinj hff => ?_)
  obtain ⟨ys, us, o1, o2, ⟨nn, o3⟩, o4, o5⟩ := F₁.own "a_digits" (by simp)
  rw [show Ctx.loc _ "a_digits" = some (.list (natPV (List.replicate N 0))) from rfl] at o1; cases o1
  generalize hD : ω "a_digits" = D at *
  have hDs : s₁.heap.get? D = some { cls := .type "list", data := .seq us.toArray nn } := o3
  have hgD : g.get? D = none := by
    cases q : g.get? D with
    | none => rfl
    | some o => have := F₁.base0.le _ _ q; rw [show s0.heap.get? D = none from o5] at this; cases this
  have hDt : D ∉ W.tabs := seq_notab F₁.ti hDs ⟨_, _, rfl⟩
  -- the ground for the inner function
  have nG := F₁.nestG hT2 [D] (Γ₂ := [("n", .int n)]) (by cases henv; rfl) hr hf ⟨_, rfl⟩ hc (fun a h => by simp at h; subst h; exact ⟨_, hDs, _, _, rfl⟩) (fun x pv hx hk hi => by
    rw [List.lookup_cons] at hx
    split at hx
    · rename_i e; cases hx; rw [beq_iff_eq.mp e]
      exact ⟨rfl, by decide, fun v a hv he => by
        obtain ⟨u, h1, h2⟩ := F₁.val "n" (.int n) rfl (by decide)
        cases h2
        subst he
        cases h1 with
        | loc e1 _ _ => have : env.kindOf "n" = some .cell := by cases henv; rfl
                        rw [this] at e1; cases e1
        | cell _ e2 e3 =>
          cases hv with
          | loc e1 _ _ => have : env.kindOf "n" = some .cell := by cases henv; rfl
                          rw [this] at e1; cases e1
          | cell _ e2' e3' =>
            rw [e2] at e2'; cases e2'
            obtain ⟨oc, r1, r2⟩ := e3
            obtain ⟨oc', r1', r2'⟩ := e3'
            rw [r1] at r1'; cases r1'
            rw [r2] at r2'; cases r2'⟩
    · cases hx)
  have hcellD : ∃ c, env.cells.lookup ("a_digits" : PySem.Str) = some c ∧ (hideAll s₁.heap ([D] ++ W.tabs)).IsCell c (some (.ref D)) := by
    cases o2 with
    | loc e1 _ _ => have : env.kindOf "a_digits" = some .cell := by cases henv; rfl
                    rw [this] at e1; cases e1
    | cell _ e2 e3 =>
      have nt := cell_notab F₁.ti e3
      obtain ⟨oc, r1, r2⟩ := e3
      refine ⟨_, e2, oc, hideAll_get _ r1 fun hm => ?_, r2⟩
      rcases List.mem_append.mp hm with q | q
      · simp at q; subst q; rw [hDs] at r1; cases r1; cases r2
      · exact nt q
  generalize hG : (fun h : Heap => NestG env [("n", .int n)] "inner" f (fnMade i2dIn.name "_int2digits.<locals>.inner" i2dIn.params i2dIn.body i2dIn.scope clos doc ((W.mg "__name__").getD .none) c' ctv) (.ref c') "_int2digits.<locals>.inner" h ∧ ∃ c, env.cells.lookup ("a_digits" : PySem.Str) = some c ∧ h.IsCell c (some (.ref D))) = G
  have hB1 : Base (W.plus G) (hideAll s₁.heap ([D] ++ W.tabs)) l s₁ := F₁.ground hT.gi [D] (fun a h => by simp at h; subst h; exact hgD) (by subst hG; exact ⟨nG, hcellD⟩)
  have gi : ∀ g, Glob (W.plus G) g → NestG env [("n", .int n)] "inner" f (fnMade i2dIn.name "_int2digits.<locals>.inner" i2dIn.params i2dIn.body i2dIn.scope clos doc ((W.mg "__name__").getD .none) c' ctv) (.ref c') "_int2digits.<locals>.inner" g ∧ ∃ c, env.cells.lookup ("a_digits" : PySem.Str) = some c ∧ g.IsCell c (some (.ref D)) := by subst hG; exact fun g hg => hg.gi.2
  have ext0 : Ext (W.plus G) l { s₁ with heap := hideAll s₁.heap [D] } l s₁ := ⟨⟨⟨s₁.heap, s₁.toks, rfl⟩, fun b o _ e => of_hideAll _ e, F₁.ti⟩, fun _ _ q => q, F₁.tk⟩
  have hide1 : ∀ b o, b ≠ D → s₁.heap.get? b = some o → (hideAll s₁.heap [D]).get? b = some o := fun b o hb e => hideAll_get _ e (by simpa using hb)
  have hB0 : Base (W.plus G) (hideAll s₁.heap ([D] ++ W.tabs)) l { s₁ with heap := hideAll s₁.heap [D] } :=
    ⟨hB1.gl, fun b o e => hide1 b o (fun q => by rw [hideAll_none _ (by simp [q])] at e; cases e) (of_hideAll _ e), W.ti_but hDs (notCode_seq rfl) hide1 F₁.ti, F₁.tk.up (Nat.le_refl _)⟩
  have hf' : FnC (W.plus G) f (fnX i2dIn.name "_int2digits.<locals>.inner" i2dIn.params i2dIn.body i2dIn.scope clos .none .none doc ((W.mg "__name__").getD .none) none (.ref c') ctv) i2dIn.body :=
    ⟨fun g hg => ⟨_, (gi g hg).1.fn, rfl⟩, fun g hg => (gi g hg).1.code, rfl, rfl, rfl, rfl, rfl, rfl, (show ∀ x ∈ i2dIn.scope.names, x.2 ≠ .cell by decide)⟩
  have hWp : WOk (W.plus G) := ⟨hW.K, hW.g, hW.b⟩
  have inner := i2d_inner (W := W.plus G) hn1 hn hf' hinj (fun g hg => by obtain ⟨c, q1, q2⟩ := (gi g hg).2; exact ⟨c, (hclo "a_digits" (by decide)).trans q1, q2⟩)
    (fun g l hg => by obtain ⟨c, v, q1, q2, q3⟩ := (gi g hg).1.vals "n" (.int n) rfl (by cases henv; rfl) (.inl ⟨_, rfl⟩); exact ⟨c, v, (hclo "n" (by decide)).trans q1, q2, q3 l⟩)
    (fun g hg => by obtain ⟨c, q1, q2⟩ := (gi g hg).1.cell; exact ⟨c, (hclo "inner" (by decide)).trans q1, q2⟩)
  refine wpAny_execs_cons (wpAny_If (wpAny_hm (wpAny_mono ((show EvB W N env (Ctx.loc [("a", .int a), ("n", .int n), ("a_digits", .list (natPV (List.replicate N 0)))]) _ ((a : Int) != 0) from by walk_at "mine b") g l _ A s₁ _ hRm F₁.base F₁.envOk) (fun c s₂ q₂ hm₂ => ?_) fun _ _ q => q)))
  obtain ⟨l₂, e₂, rfl⟩ := q₂
  have F₂ := F₁.step e₂
  have st2 := st.trans (e₂.stp (M := fun _ => False) hm₂) fun _ q => q.elim
  have imm : ∀ ds : List Nat, ∀ y ∈ natPV ds, y.imm = true := fun ds y hy => by obtain ⟨z, _, rfl⟩ := List.mem_map.mp hy; rfl
  by_cases ha0 : a = 0
  · have hN0 : N = 0 := by rw [hN, ha0]; simp [Builtin.Int.intBits]; omega
    have hb : ((a : Int) != 0) = false := by simp [ha0]
    rw [hb]
    simp only [Bool.false_eq_true, if_false]
    refine wpAny_execs_nil ?_
    refine wpAny_mono ((Ex.retOwn (W := W) (d := N) (env := env) (Γ := [("a", .int a), ("n", .int n), ("a_digits", .list (natPV (List.replicate N 0)))]) (O := ["a_digits"]) (x := "a_digits") (xs := natPV (List.replicate N 0)) (N := fun _ _ => PV.list (natPV (digs n N a)) = .none) (R := fun x => x = PV.list (natPV (digs n N a))) (by simp) rfl (imm _) (by subst hN0; rfl) (hd := rfl) (hc := rfl)) ω g l0 s0 l₂ A s₂ E hRm F₂) (fun fl s' q => q.thread st2 Grow.refl) fun _ _ q => q
  · have hN1 : 1 ≤ N := by
      have h1 : 1 ≤ Builtin.Int.intBits (a : Int) := by
        rcases Nat.eq_zero_or_pos (Builtin.Int.intBits (a : Int)) with h | h
        · have := bits_nat_le_iff.mp (Nat.le_of_eq h); simp at this; omega
        · exact h
      rw [hN, Nat.le_div_iff_mul_le (by omega)]; omega
    have hb : ((a : Int) != 0) = true := by simp [ha0]
    rw [hb]
    simp only [if_true]
    have hB2 : Base (W.plus G) (hideAll s₁.heap ([D] ++ W.tabs)) l₂ s₂ := hB1.ext e₂.plus
    have e0 : ((natPV (List.replicate N 0)).length : Int) < 2 ^ 63 := by simp [natPV]; omega
    refine wpAny_execs_cons (wpAny_Expr (evalC (W := W.plus G) hB2 F₂.envOk (hr.ext F₁.ti e₂.toExt0) hf'.callee (EvL.cons (by walk_at "mine ev") (EvL.cons (EvTN.ev EvTN.cint) (EvL.cons (EvTN.ev (EvTN.call (gnb hWp (by cases henv; rfl) (fun P => rfl) rfl (by decide)) (.inl ⟨_, rfl⟩) (by walk_at "mine args") rfl rfl (CallSp.lenl e0))) EvL.nil rfl) rfl) rfl) hRm fun l₃ s₃ vs e₃ hm₃ r₃ => ?_) (by cases henv; rfl) (by cases henv; rfl))
    have elen : ((natPV (List.replicate N 0)).length : Int) = (N : Int) := by simp [natPV]
    rw [elen] at r₃
    have F₃ := F₂.step e₃.minus
    obtain ⟨ys, us', o1, o2', ⟨nn', o3'⟩, o4', o5'⟩ := F₃.own "a_digits" (by simp)
    rw [show Ctx.loc _ "a_digits" = some (.list (natPV (List.replicate N 0))) from rfl] at o1; cases o1
    rw [hD] at o3'
    refine wpAny_mono (inner N 0 N a (by omega) (by omega) (by simpa using ha) (List.replicate N 0) (by simp) (by simpa using hN64) _ l { s₁ with heap := hideAll s₁.heap [D] } l₃ s₃ A E vs us' hRm hB0 ((ext0.trans e₂.plus).trans e₃) (hideAll_none _ (by simp)) ⟨nn', o3'⟩ (o4'.wid fun _ _ => trivial) r₃) (fun v s₄ q₄ => ?_) fun _ _ q => q
    obtain ⟨rfl, l₄, vs', st4, hp4, hv4⟩ := q₄
    have F₄ := F₃.updateStp (x := "a_digits") (by simp) (by rw [hD]; exact st4.minus) (by rw [hD]; exact hp4) hv4
    have hput : put n (List.replicate N 0) 0 N a = digs n N a := by simp [put]
    rw [hput] at F₄
    rw [← (show Upd "a_digits" (.list (natPV (digs n N a))) ([("a", .int a), ("n", .int n), ("a_digits", .list (natPV (List.replicate N 0)))] : Ctx) [("a", .int a), ("n", .int n), ("a_digits", .list (natPV (digs n N a)))] by walk_at "mine up").loc] at F₄
    have st5 := (st2.trans (e₃.minus.stp (M := fun _ => False) hm₃) fun _ q => q.elim).trans st4.minus fun b q => .inl (.inr (.inr ⟨"a_digits", by simp, q.trans hD.symm⟩))
    refine wpAny_execs_nil ?_
    exact wpAny_mono ((Ex.retOwn (W := W) (d := N) (env := env) (Γ := [("a", .int a), ("n", .int n), ("a_digits", .list (natPV (digs n N a)))]) (O := ["a_digits"]) (x := "a_digits") (xs := natPV (digs n N a)) (N := fun _ _ => PV.list (natPV (digs n N a)) = .none) (R := fun x => x = PV.list (natPV (digs n N a))) (by simp) rfl (imm _) rfl (hd := rfl) (hc := rfl)) ω g l0 s0 l₄ A s₄ E hRm F₄) (fun fl s' q => q.thread st5 Grow.refl) fun _ _ q => q
end

theorem natPV_append (xs ys : List Nat) : natPV (xs ++ ys) = natPV xs ++ natPV ys := by simp [natPV]
theorem natPV_length (xs : List Nat) : (natPV xs).length = xs.length := by simp [natPV]
theorem natPV_get (xs : List Nat) (i : Nat) : (natPV xs)[i]? = xs[i]?.map fun (d : Nat) => PV.int (d : Int) := by simp [natPV]
theorem natPV_imm (xs : List Nat) : ∀ y ∈ natPV xs, y.imm = true := fun y hy => by obtain ⟨z, _, rfl⟩ := List.mem_map.mp hy; rfl

/-- one step of the long division -/
theorem long_step {A b P d : Nat} (hb : 0 < b) : (d + P * A) / b = (A % b * P + d) / b + P * (A / b) ∧ (d + P * A) % b = (A % b * P + d) % b := by
  have e : d + P * A = (A % b * P + d) + b * (P * (A / b)) := by
    have h1 := Nat.div_add_mod A b
    have h2 : P * A = P * (b * (A / b)) + P * (A % b) := by rw [← Nat.mul_add, h1]
    have h3 : P * (b * (A / b)) = b * (P * (A / b)) := Nat.mul_left_comm _ _ _
    have h4 : P * (A % b) = A % b * P := Nat.mul_comm _ _
    omega
  rw [e]
  exact ⟨Nat.add_mul_div_left _ _ hb, Nat.add_mul_mod_self_left _ _ _⟩

section
variable {W : Wd} (hW : WOk W) (hT : TOk W)
include hW hT

theorem sp_dmp {a b : Nat} (hb : 0 < b) (hb8 : b < 2 ^ 8000) (hN : Builtin.Int.intBits (a : Int) ≤ 63 * Builtin.Int.intBits (b : Int)) : CallSp W 71 (.ref 63) [.int a, .int b] (.tup [.int (a / b : Nat), .int (a % b : Nat)]) := by
  obtain ⟨n, hn⟩ : ∃ n, n = Builtin.Int.intBits (b : Int) := ⟨_, rfl⟩
  have hn8 : n ≤ 8000 := by rw [hn]; exact bits_nat_le hb8
  have hb2 : b < 2 ^ n := bits_nat_le_iff.mp (Nat.le_of_eq hn.symm)
  have hn1 : 1 ≤ n := by
    rcases Nat.eq_zero_or_pos n with h | h
    · rw [h] at hb2; simp at hb2; omega
    · exact h
  have hb1 : 2 ^ (n - 1) ≤ b := by
    refine Nat.le_of_not_lt fun h => ?_
    have := bits_nat_le h
    omega
  obtain ⟨N, hNd⟩ : ∃ N, N = (Builtin.Int.intBits (a : Int) + n - 1) / n := ⟨_, rfl⟩
  have hN64 : N ≤ 64 := by
    rw [← hn] at hN
    rw [hNd]
    have : (Builtin.Int.intBits (a : Int) + n - 1) / n ≤ (64 * n) / n := Nat.div_le_div_right (by omega)
    rw [Nat.mul_div_cancel _ (by omega)] at this
    exact this
  have ha : a < 2 ^ (n * N) := by
    refine bits_nat_le_iff.mp ?_
    rw [hNd]
    have := Nat.div_add_mod (Builtin.Int.intBits (a : Int) + n - 1) n
    have := Nat.mod_lt (Builtin.Int.intBits (a : Int) + n - 1) (show 0 < n by omega)
    omega
  have s1 := (sp_i2d hW hT hn1 (by omega : n ≤ 20000) hNd hN64).up (show N + 1 ≤ 70 by omega)
  generalize hds : digs n N a = ds at *
  have hdl : ds.length = N := by rw [← hds, digs_length]
  have hdm : ∀ d ∈ ds, d < 2 ^ n := fun d hd => digs_mem n N a d (hds ▸ hd)
  have hdv : dval n ds = a := by rw [← hds]; exact dval_digs n N a ha
  refine callSp fnDmp hW ["a", "b"] rfl (bind2 rfl fun _ _ => rfl) fun L => ?_
  show Ex W 70 _ [("a", .int a), ("b", .int b)] [] _ _ _
  refine Ex.assign (pv := .int (n : Nat)) (FEv.N (EvTN.eq (by walk_at "mine ev") (by rw [hn]))) (by simp) (.inl rfl) (by walk_at "mine up") ?_
  refine Ex.assign (FEv.N (EvTN.call (by walk_at "mine fn") (by exact (fnI2d.ok hW).callee) (by walk_at "mine args") rfl rfl s1)) (by simp) (.inl rfl) (by walk_at "mine up") ?_
  refine Ex.assign (pv := .int ((0 : Nat) : Int)) (FEv.N (EvTN.eq (by walk_at "mine ev") (by simp))) (by simp) (.inl rfl) (by walk_at "mine up") ?_
  refine Ex.assignOwn (xs := natPV []) (FOwn.disp EvLN.nil (by simp [natPV, sizeLine])) (by simp) (.inl rfl) (by walk_at "mine up") ?_
  refine Ex.for (xs := (natPV ds).reverse) (FI.V (EvI.rev (by walk_at "mine fn") (by walk_at "mine ev") rfl)) (fun i Γ' O' => ∃ qs : List Nat, Γ' = ([("a", .int a), ("b", .int b), ("n", .int n), ("a_digits", .list (natPV ds)), ("r", .int (dval n (ds.drop (N - i)) % b : Nat)), ("q_digits", .list (natPV qs))] : Ctx) ∧ O' = (["q_digits"] : List PySem.Str) ∧
      qs.length = i ∧ (∀ d ∈ qs, d < 2 ^ n) ∧ dval n qs.reverse = dval n (ds.drop (N - i)) / b) ?_ (.inl rfl) (fun i y Γ' O' hy hI => ?_) fun Γ' O' hI => ?_
  · refine ⟨[], ?_, rfl, rfl, by simp, ?_⟩
    · rw [Nat.sub_zero, List.drop_of_length_le (by omega), show dval n [] = 0 from rfl, Nat.zero_mod]; rfl
    · rw [Nat.sub_zero, List.drop_of_length_le (by omega)]; simp [dval]
  · obtain ⟨qs, rfl, rfl, hql, hqm, hqv⟩ := hI
    have hiN : i < N := by
      rcases Nat.lt_or_ge i N with h | h
      · exact h
      · rw [List.getElem?_eq_none (by rw [List.length_reverse, natPV_length, hdl]; exact h)] at hy; cases hy
    have hj : N - (i + 1) < ds.length := by omega
    obtain ⟨d, hd⟩ : ∃ d, d = ds[N - (i + 1)] := ⟨_, rfl⟩
    have hy' : y = .int (d : Int) := by
      rw [List.getElem?_reverse (by rw [natPV_length, hdl]; exact hiN), natPV_length, natPV_get] at hy
      have e : ds.length - 1 - i = N - (i + 1) := by omega
      rw [e, List.getElem?_eq_getElem hj] at hy
      rw [hd]; simpa using hy.symm
    subst hy'
    have hdlt : d < 2 ^ n := hdm d (hd ▸ List.getElem_mem hj)
    obtain ⟨Ai, hAi⟩ : ∃ Ai, Ai = dval n (ds.drop (N - i)) := ⟨_, rfl⟩
    have hdrop : ds.drop (N - (i + 1)) = d :: ds.drop (N - i) := by
      rw [List.drop_eq_getElem_cons hj, ← hd]
      have : N - (i + 1) + 1 = N - i := by omega
      rw [this]
    rw [← hAi] at hqv ⊢
    obtain ⟨L1, L2⟩ := long_step (A := Ai) (P := 2 ^ n) (d := d) hb
    have hr : Ai % b < b := Nat.mod_lt _ hb
    have hlt : Ai % b * 2 ^ n + d < b * 2 ^ n := by
      have : (Ai % b + 1) * 2 ^ n ≤ b * 2 ^ n := Nat.mul_le_mul_right _ hr
      rw [Nat.add_mul, Nat.one_mul] at this
      omega
    have hqlt : (Ai % b * 2 ^ n + d) / b < 2 ^ n := by rw [Nat.div_lt_iff_lt_mul hb, Nat.mul_comm (2 ^ n) b]; exact hlt
    have s2 := (sp_div2 hW (Ai % b * 2 ^ n + d) b n hn1 hn8 hb1 hb2 hlt).up (show 3 ≤ 70 by omega)
    have z1 : (0 : Int) ≤ n := by omega
    have z2 : (Builtin.Int.intBits ((Ai % b : Nat) : Int) : Int) + n ≤ 2 ^ 27 := by
      have := bits_nat_le (Nat.lt_trans hr hb2)
      omega
    refine ⟨by decide, _, by walk_at "mine up", ?_⟩
    refine Ex.pair (FEv.N (EvTN.call (by walk_at "mine fn") (by exact (fnDiv2.ok hW).callee) (by walk_at "mine args") rfl rfl (s2.args ?_))) (by decide) (by decide) (.inl rfl) (.inl rfl) (by walk_at "mine up") (by walk_at "mine up") ?_
    · rw [shl_nat]; rfl
    refine Ex.append (by simp) rfl (FEv.N (by walk_at "mine ev")) (by rw [natPV_length]; omega) (by walk_at "mine up") ?_
    refine Ex.done (Γ' := [("a", .int a), ("b", .int b), ("n", .int n), ("a_digits", .list (natPV ds)), ("r", .int (dval n (ds.drop (N - (i + 1))) % b : Nat)), ("q_digits", .list (natPV (qs ++ [(Ai % b * 2 ^ n + d) / b])))]) ?_ (fun x hx => by simp only [List.mem_singleton] at hx; subst hx; simp [natPV]; rfl) ⟨qs ++ [(Ai % b * 2 ^ n + d) / b], rfl, rfl, by simp [hql], ?_, ?_⟩
    · refine Ctx.Le.cons rfl (Ctx.Le.cons rfl (Ctx.Le.cons rfl (Ctx.Le.cons rfl (Ctx.Le.cons ?_ (Ctx.Le.cons ?_ Ctx.Le.nil)))))
      · rw [hdrop]; simp only [dval]; rw [← hAi, L2]; rfl
      · rw [natPV_append]; rfl
    · intro x hx
      rcases List.mem_append.mp hx with h | h
      · exact hqm x h
      · simp at h; subst h; exact hqlt
    · rw [hdrop]; simp only [dval]; rw [← hAi, L1, List.reverse_append]
      simp only [List.reverse_cons, List.reverse_nil, List.nil_append, List.cons_append, dval]
      rw [hqv]
  · obtain ⟨qs, rfl, rfl, hql, hqm, hqv⟩ := hI
    rw [List.length_reverse, natPV_length, hdl] at hql hqv ⊢
    rw [Nat.sub_self, List.drop_zero, hdv] at hqv ⊢
    refine Ex.reverse (by simp) rfl (by rw [natPV_length]; omega) (by walk_at "mine up") ?_
    have er : (natPV qs).reverse = natPV qs.reverse := by simp [natPV]
    rw [er]
    have s3 := (sp_d2i hW hT (ds := qs.reverse) (n := n) (m := n) (fun d hd => hqm d (List.mem_reverse.mp hd)) (by omega) (by omega) (by simp; omega)).up (show qs.reverse.length + 1 ≤ 70 by simp; omega)
    rw [hqv] at s3
    refine Ex.assign (FEv.N (EvTN.call (by walk_at "mine fn") (by exact (fnD2i.ok hW).callee) (by walk_at "mine args") rfl rfl s3)) (by decide) (.inl rfl) (by walk_at "mine up") ?_
    exact Ex.ret (by walk_at "mine ev") rfl
end

section
variable {W : Wd} (hW : WOk W) (hT : TOk W)
include hW hT

theorem sp_divmod0 {a b : Nat} (hb : 0 < b) (hb8 : b < 2 ^ 8000) (hN : Builtin.Int.intBits (a : Int) ≤ 63 * Builtin.Int.intBits (b : Int)) : CallSp W 72 (.ref 70) [.int a, .int b] (.tup [.int (a / b : Nat), .int (a % b : Nat)]) := by
  have s1 := sp_dmp hW hT hb hb8 hN
  refine callSp fnDivmod hW ["a", "b"] rfl (bind2 rfl fun _ _ => rfl) fun L => ?_
  show Ex W 71 _ [("a", .int a), ("b", .int b)] [] _ _ _
  refine Ex.iff (N₁ := fun _ _ => False) (by walk_at "mine b") (fun h => absurd h (by simp; omega)) (fun _ => ?_) fun _ _ q => q.elim
  refine Ex.iff (N₁ := fun _ _ => False) (by walk_at "mine b") (fun h => absurd h (by simp)) (fun _ => ?_) fun _ _ q => q.elim
  refine Ex.iff (N₁ := fun _ _ => False) (by walk_at "mine b") (fun h => absurd h (by simp)) (fun _ => ?_) fun _ _ q => q.elim
  exact Ex.ret (EvTN.call (by walk_at "mine fn") (by exact (fnDmp.ok hW).callee) (by walk_at "mine args") rfl rfl s1) rfl

/-- divisor above 0 -/
theorem sp_divmod1 {a : Int} {b : Nat} (hb : 0 < b) (hb8 : b < 2 ^ 8000) (hN : Builtin.Int.intBits a ≤ 63 * Builtin.Int.intBits (b : Int)) : CallSp W 73 (.ref 70) [.int a, .int b] (.tup [.int (a / b), .int (a % b)]) := by
  rcases Int.le_total 0 a with h | h
  · obtain ⟨a', rfl⟩ := Int.eq_ofNat_of_zero_le h
    have := (sp_divmod0 hW hT hb hb8 hN).up (show 72 ≤ 73 by omega)
    simpa using this
  rcases Int.lt_or_eq_of_le h with h | h
  · obtain ⟨a', ha'⟩ : ∃ a' : Nat, a = -(a' : Int) - 1 := ⟨(-a - 1).toNat, by omega⟩
    subst ha'
    have hN' : Builtin.Int.intBits (a' : Int) ≤ 63 * Builtin.Int.intBits (b : Int) := Nat.le_trans (intBits_le_iff.mpr (by
      have := intBits_le_iff.mp (Nat.le_refl (Builtin.Int.intBits (-(a' : Int) - 1)))
      omega)) hN
    have s1 := sp_divmod0 hW hT hb hb8 hN'
    have hne : ((b : Int) ≠ 0) := by omega
    have hlt := Nat.mod_lt a' hb
    have eq := Nat.div_add_mod a' b
    have key : (-(a' : Int) - 1) / b = -((a' / b : Nat) : Int) - 1 ∧ (-(a' : Int) - 1) % b = (b : Int) + (-((a' % b : Nat) : Int) - 1) := by
      have e : (-(a' : Int) - 1) = ((b : Int) + (-((a' % b : Nat) : Int) - 1)) + (b : Int) * (-((a' / b : Nat) : Int) - 1) := by
        have h2 : (a' : Int) = (b : Int) * ((a' / b : Nat) : Int) + ((a' % b : Nat) : Int) := by rw [← Int.natCast_mul]; omega
        rw [Int.mul_sub, Int.mul_neg, Int.mul_one]; omega
      have r0 : 0 ≤ (b : Int) + (-((a' % b : Nat) : Int) - 1) := by omega
      have r1 : (b : Int) + (-((a' % b : Nat) : Int) - 1) < b := by omega
      rw [e]
      constructor
      · rw [Int.add_mul_ediv_left _ _ hne, Int.ediv_eq_zero_of_lt r0 r1]; omega
      · rw [Int.add_mul_emod_self_left, Int.emod_eq_of_lt r0 r1]
    rw [key.1, key.2]
    refine callSp fnDivmod hW ["a", "b"] rfl (bind2 rfl fun _ _ => rfl) fun L => ?_
    show Ex W 72 _ [("a", .int (-(a' : Int) - 1)), ("b", .int b)] [] _ _ _
    refine Ex.iff (N₁ := fun _ _ => False) (by walk_at "mine b") (fun h => absurd h (by simp; omega)) (fun _ => ?_) fun _ _ q => q.elim
    refine Ex.iff (N₁ := fun _ _ => False) (by walk_at "mine b") (fun h => absurd h (by simp)) (fun _ => ?_) fun _ _ q => q.elim
    refine Ex.iff (N₁ := fun _ _ => False) (by walk_at "mine b") (fun _ => ?_) (fun h => absurd h (by simp; omega)) fun _ _ q => q.elim
    refine Ex.pair (FEv.N (EvTN.call (by walk_at "mine fn") (by exact (fnDivmod.ok hW).callee) (by walk_at "mine args") rfl rfl (s1.args ?_))) (by decide) (by decide) (.inl rfl) (.inl rfl) (by walk_at "mine up") (by walk_at "mine up") ?_
    · have : Builtin.bitNot (-(a' : Int) - 1) = a' := by unfold Builtin.bitNot; omega
      rw [this]
    exact Ex.ret (EvTN.eq (by walk_at "mine ev") (by rfl)) rfl
  · subst h
    have := (sp_divmod0 hW hT (a := 0) hb hb8 (by simpa using hN)).up (show 72 ≤ 73 by omega)
    simpa using this

theorem sp_divmod {a b : Int} (hb : b ≠ 0) (hb8 : b.natAbs < 2 ^ 8000) (hN : Builtin.Int.intBits a ≤ 63 * Builtin.Int.intBits b) : CallSp W 74 (.ref 70) [.int a, .int b] (.tup [.int (a.fdiv b), .int (a.fmod b)]) := by
  rcases Int.lt_or_gt_of_ne hb with h | h
  · obtain ⟨b', hb'⟩ : ∃ b' : Nat, b = -(b' : Int) := ⟨(-b).toNat, by omega⟩
    subst hb'
    have s1 := sp_divmod1 hW hT (a := -a) (b := b') (by omega) (by simpa using hb8) (by
      have e1 := intBits_neg_le (Nat.le_refl (Builtin.Int.intBits a))
      have e2 := intBits_neg_le (Nat.le_refl (Builtin.Int.intBits (-(b' : Int))))
      have e3 := intBits_neg_le (Nat.le_refl (Builtin.Int.intBits ((b' : Int))))
      have e4 : - -(b' : Int) = b' := by omega
      rw [e4] at e2
      omega)
    have key : a.fdiv (-(b' : Int)) = (-a) / (b' : Int) ∧ a.fmod (-(b' : Int)) = -((-a) % (b' : Int)) := by
      have e1 : a.fdiv (-(b' : Int)) = (-a).fdiv (b' : Int) := by
        have := Int.neg_fdiv_neg (-a) (b' : Int)
        rwa [Int.neg_neg] at this
      have e2 : (-a).fdiv (b' : Int) = (-a) / (b' : Int) := Int.fdiv_eq_ediv_of_nonneg _ (by omega)
      refine ⟨e1.trans e2, ?_⟩
      have e3 := Int.mul_fdiv_add_fmod a (-(b' : Int))
      have e4 := Int.mul_ediv_add_emod (-a) (b' : Int)
      rw [e1, e2, Int.neg_mul] at e3
      omega
    rw [key.1, key.2]
    refine callSp fnDivmod hW ["a", "b"] rfl (bind2 rfl fun _ _ => rfl) fun L => ?_
    show Ex W 73 _ [("a", .int a), ("b", .int (-(b' : Int)))] [] _ _ _
    refine Ex.iff (N₁ := fun _ _ => False) (by walk_at "mine b") (fun h => absurd h (by simp; omega)) (fun _ => ?_) fun _ _ q => q.elim
    refine Ex.iff (N₁ := fun _ _ => False) (by walk_at "mine b") (fun _ => ?_) (fun h => absurd h (by simp; omega)) fun _ _ q => q.elim
    refine Ex.pair (FEv.N (EvTN.call (by walk_at "mine fn") (by exact (fnDivmod.ok hW).callee) (by walk_at "mine args") rfl rfl (s1.args ?_))) (by decide) (by decide) (.inl rfl) (.inl rfl) (by walk_at "mine up") (by walk_at "mine up") ?_
    · rw [Int.neg_neg]
    exact Ex.ret (by walk_at "mine ev") rfl
  · obtain ⟨b', rfl⟩ := Int.eq_ofNat_of_zero_le (Int.le_of_lt h)
    have := (sp_divmod1 hW hT (a := a) (b := b') (by omega) (by simpa using hb8) hN).up (show 73 ≤ 74 by omega)
    rw [Int.fdiv_eq_ediv_of_nonneg _ (by omega), Int.fmod_eq_emod_of_nonneg _ (by omega)]
    exact this
end

noncomputable def subS (x y : PySem.Str) : Int := if x = y then 0 else if Txt.lower x = Txt.lower y then 1 else 2
noncomputable def subC (x y : Nat) : Int := subS (S [x]) (S [y])
noncomputable def stripP : List Nat → List Nat → List Nat × List Nat
  | x :: xs, y :: ys => if x = y then stripP xs ys else (x :: xs, y :: ys)
  | a, b => (a, b)
noncomputable def levRow (c : Nat) : List Nat → List Int → Int → Int → Int → List Int × Int × Int
  | a :: as, w :: row, dist, res, mn =>
    let sub := dist + subC c a
    let ins := (if w < res then w else res) + 2
    let r := if sub < ins then sub else ins
    let out := levRow c as row w r (if r < mn then r else mn)
    (r :: out.1, out.2)
  | _, row, _, res, mn => (row, res, mn)
noncomputable def levRows (a : List Nat) (mc : Int) : List Nat → Nat → List Int → Int → Int
  | [], _, _, res => res
  | c :: bs, i, row, res =>
    let out := levRow c a row ((i : Int) * 2) ((i : Int) * 2) 9223372036854775807
    if out.2.2 > mc then mc + 1 else levRows a mc bs (i + 1) out.1 out.2.1
noncomputable def levC2 (a b : List Nat) (mc : Int) : Int :=
  if ((b.length : Int) - a.length) * 2 > mc then mc + 1 else levRows a mc b 0 ((List.range a.length).map fun (i : Nat) => 2 + (i : Int) * 2) 0
noncomputable def levC (a b : List Nat) (mc : Int) : Int :=
  if a = [] ∨ b = [] then 2 * ((a.length : Int) + b.length) else if b.length < a.length then levC2 b a mc else levC2 a b mc
noncomputable def lev (a b : List Nat) (mc : Int) : Int :=
  if a = b then 0 else
    let p := stripP a b
    let q := stripP p.1.reverse p.2.reverse
    levC q.1.reverse q.2.reverse mc

section
variable {W : Wd} (hW : WOk W)
include hW

theorem sp_subst {x y : PySem.Str} (hx : x.length ≤ 1000000) (hy : y.length ≤ 1000000) : CallSp W 1 (.ref 21) [.str x, .str y] (.int (subS x y)) := by
  refine callSp fnSubst hW ["ch_a", "ch_b"] rfl (bind2 rfl fun _ _ => rfl) fun L => ?_
  show Ex W 0 _ [("ch_a", .str x), ("ch_b", .str y)] [] _ _ _
  refine Ex.ifRet (by walk_at "mine b") (fun h => Ex.ret EvTN.cint (by have := beq_iff_eq.mp h; simp [subS, this])) fun h => ?_
  have h1 := beq_eq_false_iff_ne.mp h
  refine Ex.ifRet (by walk_at "mine b") (fun h' => Ex.ret (EvTN.eq (by walk_at "mine ev") ?_) rfl) fun h' => Ex.ret (EvTN.eq (by walk_at "mine ev") ?_) rfl
  · have := beq_iff_eq.mp h'; simp [subS, h1, this]
  · have := beq_eq_false_iff_ne.mp h'; simp [subS, h1, this]
end

theorem pylong2 {x : Int} : Builtin.divisionGoesByPylong x 2 = false := pylong_no (Nat.lt_of_lt_of_le (by decide : (2 : Int).natAbs < 2 ^ 2) (Nat.pow_le_pow_right (by omega) (by omega)))

theorem S_beq (a b : List Nat) : (S a == S b) = decide (a = b) := by
  rw [Bool.eq_iff_iff, beq_iff_eq, decide_eq_true_eq, S_inj]
theorem S_ne0 (a : List Nat) : (((S a).length : Int) != 0) = !a.isEmpty := by
  rw [S_length]; cases a <;> simp; omega
theorem stripP_drop {a b : List Nat} {k : Nat} (ha : k < a.length) (hb : k < b.length) (h : a[k] = b[k]) : stripP (a.drop k) (b.drop k) = stripP (a.drop (k + 1)) (b.drop (k + 1)) := by
  rw [List.drop_eq_getElem_cons ha, List.drop_eq_getElem_cons hb]
  simp [stripP, h]
theorem stripP_end {a b : List Nat} {k : Nat} (h : a.length ≤ k ∨ b.length ≤ k ∨ ∃ (ha : k < a.length) (hb : k < b.length), a[k] ≠ b[k]) : stripP (a.drop k) (b.drop k) = (a.drop k, b.drop k) := by
  rcases h with h | h | ⟨ha, hb, h⟩
  · rw [List.drop_of_length_le h]; cases b.drop k <;> rfl
  · rw [List.drop_of_length_le h]; cases a.drop k <;> rfl
  · rw [List.drop_eq_getElem_cons ha, List.drop_eq_getElem_cons hb]
    simp [stripP, h]
theorem take_rev (a : List Nat) (j : Nat) : a.take (a.length - j) = (a.reverse.drop j).reverse := by
  rw [List.drop_reverse, List.reverse_reverse]

section
variable {W : Wd} {d : Nat} {env : Env} {σ : Loc}
/-- x[lo:] of a text -/
theorem EvTN.from {x : PySem.Str} {p q pos : Pos} {lo : Expr} {l : List Nat} {k : Nat} (hv : Ev W d env σ (.Name x p) (.str (S l))) (hlo : Ev W d env σ lo (.int (k : Nat))) (hk : k ≤ l.length) (hz : l.length ≤ 1000) :
    EvN W d env σ (.Subscript (.Name x p) (.Slice (some lo) none none q) pos) (.str (S (l.drop k))) := by
  have := EvTN.sliceS (pos := pos) (q := q) (hi := none) hv (EvP.int hlo) EvP.none (by rw [S_length]; simp [sizeLine]; omega)
  rw [slice_from hk] at this
  exact this
/-- x[:post or None] of a text -/
theorem EvTN.less {x : PySem.Str} {p q pos : Pos} {hi : Expr} {l : List Nat} {k : Nat} (hv : Ev W d env σ (.Name x p) (.str (S l))) (hhi : EvP W d env σ (some hi) (if k = 0 then none else some (-(k : Int)))) (hk : k ≤ l.length) (hz : l.length ≤ 1000) :
    EvN W d env σ (.Subscript (.Name x p) (.Slice none (some hi) none q) pos) (.str (S (l.take (l.length - k)))) := by
  have := EvTN.sliceS (pos := pos) (q := q) (lo := none) hv EvP.none hhi (by rw [S_length]; simp [sizeLine]; omega)
  by_cases h : k = 0
  · subst h
    simp only [if_true] at this
    rw [slice_all] at this
    simpa using this
  · rw [if_neg h, slice_less hk (by omega)] at this
    exact this
theorem Truth.S {l : List Nat} (h : l.length ≤ 1000) : Truth W d (.str (S l)) (!l.isEmpty) := by
  have := Truth.str (W := W) (d := d) (a := Mine.S l) (by rw [S_length]; omega)
  rw [S_ne0] at this
  exact this
theorem EvTN.atS {x : PySem.Str} {p pos : Pos} {sl : Expr} {l : List Nat} {k : Nat} (hv : Ev W d env σ (.Name x p) (.str (S l))) (hi : Ev W d env σ sl (.int (k : Nat))) (h : k < l.length) (hz : l.length ≤ 1000)
    (hs : ∀ o i, subscripted sl false o i = operate [o, i] (getItem o i)) : EvN W d env σ (.Subscript (.Name x p) sl pos) (.str (S [l[k]])) :=
  EvTN.itemS hv hi (by omega) (by omega) (get_nat h) hs
end

section
variable {W : Wd} (hW : WOk W)
include hW

/-- the rows -/
theorem ex_rows {a b : List Nat} {mc : Int} {k j : Nat} (ha4 : a.length ≤ 40) (hb4 : b.length ≤ 40) {L : Addr} {R : PV → Prop} (hR : R (.int (levRows a mc b 0 ((List.range a.length).map fun (i : Nat) => 2 + (i : Int) * 2) 0))) :
    Ex W 1 (callEnvC fnLev.fd L 28) [("a", .str (S a)), ("b", .str (S b)), ("max_cost", .int mc), ("pre", .int (k : Nat)), ("post", .int (-(j : Int)))] [] (fnLev.body.drop 13) (fun _ _ => False) R := by
  have la : a.length ≤ 1000 := by omega
  have lb : b.length ≤ 1000 := by omega
  have s1 : IntMulOk 2 ((a.length : Nat) + 1 : Int) := IntMulOk.of_left (by decide)
  refine Ex.assignOwn (xs := intPV ((List.range a.length).map fun (i : Nat) => 2 + (i : Int) * 2)) (FOwn.N (EvTN.eq (EvTN.listRange (n := a.length) (a := 2) (b := 2 * ((a.length : Nat) + 1 : Int)) (c := 2) (by walk_at "mine fn") (by walk_at "mine fn") (by walk_at "mine args") rfl rfl (RangeCall.three (by decide) (pylong2)) (range_small2 (by omega)) (rangeSize2 _) (by omega)) (by rw [rangeL_int])) (intPV_imm _)) (by simp) (.inl rfl) (by walk_at "mine up") ?_
  refine Ex.assign (FEv.N EvTN.cint) (by decide) (.inl rfl) (by walk_at "mine up") ?_
  generalize hr0 : ((List.range a.length).map fun (i : Nat) => 2 + (i : Int) * 2) = row0 at hR ⊢
  have hl0 : row0.length = a.length := by rw [← hr0]; simp
  refine Ex.for (FI.V (EvI.rng1 (n := b.length) (by walk_at "mine fn") (by walk_at "mine args") (by omega))) (fun i Γ' O' => ∃ row res, Γ' = ([("a", .str (S a)), ("b", .str (S b)), ("max_cost", .int mc), ("pre", .int (k : Nat)), ("post", .int (-(j : Int))), ("row", .list (intPV row)), ("result", .int res)] : Ctx) ∧ O' = (["row"] : List PySem.Str) ∧ row.length = a.length ∧
      levRows a mc b 0 row0 0 = levRows a mc (b.drop i) i row res) ⟨row0, 0, rfl, rfl, hl0, rfl⟩ (.inl rfl) (fun i y Γ' O' hy hI => ?_) fun Γ' O' hI => ?_
  · obtain ⟨row, res, rfl, rfl, hrl, hinv⟩ := hI
    have hib : i < b.length := by
      rcases Nat.lt_or_ge i b.length with h | h
      · exact h
      · rw [List.getElem?_eq_none (by simpa using h)] at hy; cases hy
    have hy' : y = .int (i : Nat) := by simp [hib] at hy; exact hy.symm
    subst hy'
    have hbd : b.drop i = b[i] :: b.drop (i + 1) := List.drop_eq_getElem_cons hib
    rw [hbd] at hinv
    simp only [levRows] at hinv
    generalize hc : b[i] = c at hinv
    refine ⟨by decide, _, by walk_at "mine up", ?_⟩
    refine Ex.assign (pv := .str (S [c])) (FEv.N (EvTN.eq (EvTN.atS (by walk_at "mine ev") (by walk_at "mine ev") hib lb (fun _ _ => rfl)) (by rw [hc]))) (by decide) (.inl rfl) (by walk_at "mine up") ?_
    have s2 : IntMulOk (i : Int) 2 := IntMulOk.of_right (by decide)
    refine Ex.two (by walk_at "mine ev") rfl (by decide) (by decide) (.inl rfl) (.inl rfl) (by walk_at "mine up") (by walk_at "mine up") ?_
    refine Ex.assign (FEv.N EvTN.cint) (by decide) (.inl rfl) (by walk_at "mine up") ?_
    generalize hd0 : (i : Int) * 2 = d0 at hinv ⊢
    refine Ex.for (FI.V (EvI.rng1 (n := a.length) (by walk_at "mine fn") (by walk_at "mine args") (by omega))) (fun n Γ' O' => ∃ dn rest dist rs mn, Γ' = ([("a", .str (S a)), ("b", .str (S b)), ("max_cost", .int mc), ("pre", .int (k : Nat)), ("post", .int (-(j : Int))), ("row", .list (intPV (dn ++ rest))), ("result", .int rs), ("bindex", .int (i : Nat)), ("bchar", .str (S [c])), ("distance", .int dist), ("minimum", .int mn)] : Ctx) ∧ O' = (["row"] : List PySem.Str) ∧
        dn.length = n ∧ rest.length = a.length - n ∧ levRow c a row d0 d0 9223372036854775807 = (dn ++ (levRow c (a.drop n) rest dist rs mn).1, (levRow c (a.drop n) rest dist rs mn).2)) ⟨[], row, d0, d0, _, rfl, rfl, rfl, by simpa using hrl, by simp⟩ (.inl rfl) (fun n y Γ' O' hy hI => ?_) fun Γ' O' hI => ?_
    · obtain ⟨dn, rest, dist, rs, mn, rfl, rfl, hdn, hrest, hrow⟩ := hI
      have hna : n < a.length := by
        rcases Nat.lt_or_ge n a.length with h | h
        · exact h
        · rw [List.getElem?_eq_none (by simpa using h)] at hy; cases hy
      have hy' : y = .int (n : Nat) := by simp [hna] at hy; exact hy.symm
      subst hy'
      cases rest with
      | nil => simp at hrest; omega
      | cons w rest =>
        have had : a.drop n = a[n] :: a.drop (n + 1) := List.drop_eq_getElem_cons hna
        rw [had] at hrow
        simp only [levRow] at hrow
        generalize hca : a[n] = ca at hrow
        have hs := (sp_subst hW (x := S [c]) (y := S [ca]) (by rw [S_length]; simp) (by rw [S_length]; simp)).up (show 1 ≤ 1 by omega)
        refine ⟨by decide, _, by walk_at "mine up", ?_⟩
        refine Ex.assign (pv := .int (dist + subC c ca)) (FEv.N (EvTN.binop (by walk_at "mine ev") (EvTN.ev (EvTN.call (by walk_at "mine fn") (by exact (fnSubst.ok hW).callee) (EvL.cons (by walk_at "mine ev") (EvL.cons (EvTN.ev (EvTN.atS (by walk_at "mine ev") (by walk_at "mine ev") hna la (fun _ _ => rfl))) EvL.nil rfl) rfl) rfl rfl (hs.args (by rw [hca])))) Op2.add)) (by decide) (.inl rfl) (by walk_at "mine up") ?_
        have hdl : n < (dn ++ w :: rest).length := by simp; omega
        have hget : (dn ++ w :: rest)[n] = w := by simp [← hdn]
        refine Ex.assign (pv := .int w) (FEv.N (EvT.imm (EvT.item (k := (n : Int)) (by walk_at "mine ev") (by walk_at "mine ev") (by omega) (by omega) (by rw [intPV_get hdl, hget]) (fun _ _ => rfl)) rfl)) (by decide) (.inl rfl) (by walk_at "mine up") ?_
        refine Ex.assign (pv := .int ((if w < rs then w else rs) + 2)) (FEv.N (by walk_at "mine ev")) (by decide) (.inl rfl) (by walk_at "mine up") ?_
        generalize hins : (if w < rs then w else rs) + 2 = ins at hrow ⊢
        generalize hsub : dist + subC c ca = sub at hrow ⊢
        refine Ex.assign (pv := .int (if sub < ins then sub else ins)) (FEv.N (by walk_at "mine ev")) (by decide) (.inl rfl) (by walk_at "mine up") ?_
        generalize hres : (if sub < ins then sub else ins) = rs' at hrow ⊢
        refine Ex.setItem (k := (n : Int)) (pv := .int rs') (by simp) rfl (FEv.N (by walk_at "mine ev")) (by walk_at "mine ev") (by omega) (by omega) (by rw [intPV_length]; omega) (by walk_at "mine up") ?_
        rw [intPV_set]
        have hset : (dn ++ w :: rest).set n rs' = dn ++ rs' :: rest := by rw [← hdn]; simp
        rw [hset]
        have fin : ∀ mn' : Int, mn' = (if rs' < mn then rs' else mn) → ∃ dn₁ rest₁ dist₁ rs₁ mn₁, ([("a", .str (S a)), ("b", .str (S b)), ("max_cost", .int mc), ("pre", .int (k : Nat)), ("post", .int (-(j : Int))), ("row", .list (intPV (dn ++ rs' :: rest))), ("result", .int rs'), ("bindex", .int (i : Nat)), ("bchar", .str (S [c])), ("distance", .int w), ("minimum", .int mn')] : Ctx) =
            ([("a", .str (S a)), ("b", .str (S b)), ("max_cost", .int mc), ("pre", .int (k : Nat)), ("post", .int (-(j : Int))), ("row", .list (intPV (dn₁ ++ rest₁))), ("result", .int rs₁), ("bindex", .int (i : Nat)), ("bchar", .str (S [c])), ("distance", .int dist₁), ("minimum", .int mn₁)] : Ctx) ∧ (["row"] : List PySem.Str) = (["row"] : List PySem.Str) ∧
            dn₁.length = n + 1 ∧ rest₁.length = a.length - (n + 1) ∧ levRow c a row d0 d0 9223372036854775807 = (dn₁ ++ (levRow c (a.drop (n + 1)) rest₁ dist₁ rs₁ mn₁).1, (levRow c (a.drop (n + 1)) rest₁ dist₁ rs₁ mn₁).2) := fun mn' hmn => by
          refine ⟨dn ++ [rs'], rest, w, rs', mn', ?_, rfl, by simp [hdn], by simp at hrest; omega, ?_⟩
          · rw [List.append_assoc]; rfl
          · rw [hrow, hmn, List.append_assoc]; rfl
        refine Ex.iff (N₁ := fun Γ' O' => O' = (["row"] : List PySem.Str) ∧ ∃ mn', mn' = (if rs' < mn then rs' else mn) ∧ Ctx.Le ([("a", .str (S a)), ("b", .str (S b)), ("max_cost", .int mc), ("pre", .int (k : Nat)), ("post", .int (-(j : Int))), ("row", .list (intPV (dn ++ rs' :: rest))), ("result", .int rs'), ("bindex", .int (i : Nat)), ("bchar", .str (S [c])), ("distance", .int w), ("minimum", .int mn')] : Ctx) Γ') (by walk_at "mine b") (fun h => ?_) (fun h => ?_) fun Γ' O' hN => ?_
        · have h' : rs' < mn := of_decide_eq_true h
          refine Ex.assign (FEv.N (by walk_at "mine ev")) (by decide) (.inl rfl) (by walk_at "mine up") ?_
          exact Ex.nil ⟨rfl, rs', by rw [if_pos h'], by repeat' (first | exact Ctx.Le.nil | refine Ctx.Le.cons rfl ?_)⟩
        · have h' : ¬ rs' < mn := of_decide_eq_false h
          exact Ex.nil ⟨rfl, mn, by rw [if_neg h'], by repeat' (first | exact Ctx.Le.nil | refine Ctx.Le.cons rfl ?_)⟩
        · obtain ⟨rfl, mn', hmn, hle⟩ := hN
          refine Ex.done hle (fun x hx => ?_) (fin mn' hmn)
          simp only [List.mem_singleton] at hx; subst hx
          exact (hle "row" _ rfl).symm
    · obtain ⟨dn, rest, dist, rs, mn, rfl, rfl, hdn, hrest, hrow⟩ := hI
      simp only [List.length_map, List.length_range] at hdn hrest hrow
      rw [Nat.sub_self] at hrest
      have hr : rest = [] := List.length_eq_zero_iff.mp hrest
      subst hr
      rw [List.drop_of_length_le (Nat.le_refl _)] at hrow
      simp only [levRow, List.append_nil] at hrow
      rw [hrow] at hinv
      simp only at hinv
      rw [List.append_nil]
      refine Ex.ifRet (by walk_at "mine b") (fun h => Ex.ret (by walk_at "mine ev") ?_) fun h => ?_
      · have h' : mn > mc := of_decide_eq_true h
        rw [if_pos h'] at hinv
        rw [← hinv]; exact hR
      · have h' : ¬ mn > mc := of_decide_eq_false h
        rw [if_neg h'] at hinv
        exact Ex.done (by repeat' (first | exact Ctx.Le.nil | refine Ctx.Le.cons rfl ?_)) (fun x hx => by simp only [List.mem_singleton] at hx; subst hx; rfl) ⟨dn, rs, rfl, rfl, hdn, hinv⟩
  · obtain ⟨row, res, rfl, rfl, hrl, hinv⟩ := hI
    simp only [List.length_map, List.length_range] at hinv
    rw [List.drop_of_length_le (Nat.le_refl _)] at hinv
    simp only [levRows] at hinv
    exact Ex.ret (by walk_at "mine ev") (by rw [← hinv]; exact hR)
end

theorem evPost {W : Wd} {d : Nat} {env : Env} {σ : Loc} {j : Nat} (hv : σ "post" = some (.int (-(j : Int)))) (p1 p2 p3 : Pos) (kk : Nat) : EvP W d env σ (some (.BoolOp .Or [.Name "post" p1, .Constant .none kk p2] p3)) (if j = 0 then none else some (-(j : Int))) := by
  have hn : EvN W d env σ (.Name "post" p1) (.int (-(j : Int))) := EvT.imm (EvT.name hv rfl rfl) rfl
  by_cases h0 : j = 0
  · rw [if_pos h0]
    subst h0
    exact EvP.non (EvTN.ev (EvTN.or2 (b := false) hn Truth.int (fun _ => EvTN.cnone) (fun h => nomatch h)))
  · rw [if_neg h0]
    have ht : ((-(j : Int)) != 0) = true := by simp; omega
    have hT : Truth W d (.int (-(j : Int))) true := ht ▸ Truth.int
    exact EvP.int (EvTN.ev (EvTN.or2 (b := true) hn hT (fun h => nomatch h) (fun _ => rfl)))

section
variable {W : Wd} (hW : WOk W)
include hW

/-- the length tests, the swap, the rows -/
theorem ex_mid {a b : List Nat} {mc : Int} {k j : Nat} (ha4 : a.length ≤ 40) (hb4 : b.length ≤ 40) {L : Addr} :
    Ex W 1 (callEnvC fnLev.fd L 28) [("a", .str (S a)), ("b", .str (S b)), ("max_cost", .int mc), ("pre", .int (k : Nat)), ("post", .int (-(j : Int)))] [] (fnLev.body.drop 9) (fun _ _ => False) (· = .int (levC a b mc)) := by
  have la : a.length ≤ 1000 := by omega
  have lb : b.length ≤ 1000 := by omega
  have s1 : IntMulOk 2 ((a.length : Nat) + (b.length : Nat) : Int) := IntMulOk.of_left (by decide)
  refine Ex.ifRet (EvB.or (EvB.not (EvB.val (by walk_at "mine ev") (Truth.S la) (fun _ => rfl))) (fun _ => EvB.or (EvB.not (EvB.val (by walk_at "mine ev") (Truth.S lb) (fun _ => rfl))) (fun _ => EvB.or_nil))) (fun h => Ex.ret (by walk_at "mine ev") ?_) fun h => ?_
  · have : a = [] ∨ b = [] := by
      simp at h
      exact h
    rw [levC, if_pos this]
  have hab : ¬ (a = [] ∨ b = []) := by
    simp at h
    rintro (q | q)
    · exact h.1 q
    · exact h.2 q
  refine Ex.ifRet (by walk_at "mine b") (fun h => ?_) fun _ => ?_
  · exfalso
    simp at h; omega
  rw [levC, if_neg hab]
  have tail : ∀ (a b : List Nat), a.length ≤ 40 → b.length ≤ 40 → Ex W 1 (callEnvC fnLev.fd L 28) [("a", .str (S a)), ("b", .str (S b)), ("max_cost", .int mc), ("pre", .int (k : Nat)), ("post", .int (-(j : Int)))] [] (fnLev.body.drop 12) (fun _ _ => False) (· = .int (levC2 a b mc)) := fun a b ha hb => by
    have la : a.length ≤ 1000 := by omega
    have lb : b.length ≤ 1000 := by omega
    have s2 : IntMulOk ((b.length : Nat) - (a.length : Nat) : Int) 2 := IntMulOk.of_right (by decide)
    refine Ex.ifRet (by walk_at "mine b") (fun h => Ex.ret (by walk_at "mine ev") ?_) fun h => ?_
    · have h' := of_decide_eq_true h
      rw [levC2, if_pos h']
    · have h' := of_decide_eq_false h
      rw [levC2, if_neg h']
      exact ex_rows hW ha hb rfl
  refine Ex.iff (N₁ := fun Γ' O' => O' = [] ∧ ∃ a' b', Γ' = ([("a", .str (S a')), ("b", .str (S b')), ("max_cost", .int mc), ("pre", .int (k : Nat)), ("post", .int (-(j : Int)))] : Ctx) ∧ a'.length ≤ 40 ∧ b'.length ≤ 40 ∧ (if b.length < a.length then levC2 b a mc else levC2 a b mc) = levC2 a' b' mc) (by walk_at "mine b") (fun h => ?_) (fun h => ?_) fun Γ' O' hN => ?_
  · have h' := of_decide_eq_true h
    refine Ex.pairSw (FEv.N (by walk_at "mine ev")) (by simp) (by simp) (.inl rfl) (.inl rfl) (by walk_at "mine up") (by walk_at "mine up") ?_
    exact Ex.nil ⟨rfl, b, a, rfl, hb4, ha4, by rw [if_pos (by omega)]⟩
  · have h' := of_decide_eq_false h
    exact Ex.nil ⟨rfl, a, b, rfl, ha4, hb4, by rw [if_neg (by omega)]⟩
  · obtain ⟨rfl, a', b', rfl, ha', hb', e⟩ := hN
    rw [e]
    exact tail a' b' ha' hb'

theorem sp_lev {a b : List Nat} {mc : Int} (ha4 : a.length ≤ 40) (hb4 : b.length ≤ 40) : CallSp W 2 (.ref 28) [.str (S a), .str (S b), .int mc] (.int (lev a b mc)) := by
  have la : a.length ≤ 1000 := by omega
  have lb : b.length ≤ 1000 := by omega
  refine callSp fnLev hW ["a", "b", "max_cost"] rfl (bind3 rfl fun _ _ _ => rfl) fun L => ?_
  show Ex W 1 _ [("a", .str (S a)), ("b", .str (S b)), ("max_cost", .int mc)] [] _ _ _
  refine Ex.ifRet (by walk_at "mine b") (fun h => Ex.ret EvTN.cint (by rw [S_beq] at h; rw [lev, if_pos (of_decide_eq_true h)])) fun h => ?_
  rw [S_beq] at h
  rw [lev, if_neg (of_decide_eq_false h)]
  simp only
  refine Ex.assign (pv := .int ((0 : Nat) : Int)) (FEv.N (EvTN.eq (by walk_at "mine ev") (by rfl))) (by simp) (.inl rfl) (by walk_at "mine up") ?_
  refine Ex.while (Inv := fun m Γ' O' => ∃ k, Γ' = ([("a", .str (S a)), ("b", .str (S b)), ("max_cost", .int mc), ("pre", .int (k : Nat))] : Ctx) ∧ O' = [] ∧ k ≤ a.length ∧ k ≤ b.length ∧ stripP a b = stripP (a.drop k) (b.drop k) ∧ m = a.length - k) _ ⟨0, rfl, rfl, Nat.zero_le _, Nat.zero_le _, by simp, rfl⟩ fun m Γ' O' hI => ?_
  obtain ⟨k, rfl, rfl, hka, hkb, hst, rfl⟩ := hI
  have lad : (a.drop k).length ≤ 1000 := by simp; omega
  have lbd : (b.drop k).length ≤ 1000 := by simp; omega
  have kne : ∀ l : List Nat, (!(l.drop k).isEmpty) = true → k < l.length := fun l h => by
    simp [List.drop_eq_nil_iff] at h; exact h
  refine ⟨(!(a.drop k).isEmpty) && ((!(b.drop k).isEmpty) && ((if h : k < a.length ∧ k < b.length then decide (a[k]'h.1 = b[k]'h.2) else false) && true)), EvB.and (EvB.val (EvTN.ev (EvTN.from (by walk_at "mine ev") (by walk_at "mine ev") hka la)) (Truth.S lad) (fun _ => rfl)) (fun h1 => EvB.and (EvB.val (EvTN.ev (EvTN.from (by walk_at "mine ev") (by walk_at "mine ev") hkb lb)) (Truth.S lbd) (fun _ => rfl)) (fun h2 => EvB.and ?_ (fun _ => EvB.and_nil))), fun h => ?_, fun h => ?_⟩
  · have p1 := kne a h1
    have p2 := kne b h2
    rw [dif_pos ⟨p1, p2⟩]
    have e : decide (a[k] = b[k]) = (S [a[k]] == S [b[k]]) := by rw [S_beq]; simp
    rw [e]
    exact EvB.cmp (EvTN.ev (EvTN.atS (by walk_at "mine ev") (by walk_at "mine ev") p1 la (fun _ _ => rfl))) (EvTN.ev (EvTN.atS (by walk_at "mine ev") (by walk_at "mine ev") p2 lb (fun _ _ => rfl))) Op2.eqs rfl
  · simp only [Bool.and_eq_true, and_true] at h
    obtain ⟨h1, h2, h3⟩ := h
    have p1 := kne a h1
    have p2 := kne b h2
    rw [dif_pos ⟨p1, p2⟩] at h3
    refine Ex.aug rfl (by walk_at "mine ev") (by walk_at "mine op") (by simp) (.inl rfl) (by walk_at "mine up") ?_
    exact Ex.nil ⟨a.length - (k + 1), by omega, k + 1, rfl, rfl, p1, p2, by rw [hst]; exact stripP_drop p1 p2 (of_decide_eq_true h3), rfl⟩
  -- the common beginning is gone
  have hend : a.length ≤ k ∨ b.length ≤ k ∨ ∃ (ha : k < a.length) (hb : k < b.length), a[k] ≠ b[k] := by
    by_cases p1 : k < a.length
    · by_cases p2 : k < b.length
      · refine .inr (.inr ⟨p1, p2, fun q => ?_⟩)
        rw [dif_pos ⟨p1, p2⟩] at h
        simp [q, List.drop_eq_nil_iff] at h
        omega
      · exact .inr (.inl (by omega))
    · exact .inl (by omega)
  rw [stripP_end hend] at hst
  rw [hst]
  simp only
  refine Ex.assign (FEv.N (EvTN.from (by walk_at "mine ev") (by walk_at "mine ev") hka la)) (by simp) (.inl rfl) (by walk_at "mine up") ?_
  refine Ex.assign (FEv.N (EvTN.from (by walk_at "mine ev") (by walk_at "mine ev") hkb lb)) (by simp) (.inl rfl) (by walk_at "mine up") ?_
  have la1 : (a.drop k).length ≤ 40 := by simp; omega
  have lb1 : (b.drop k).length ≤ 40 := by simp; omega
  generalize a.drop k = a1 at *
  generalize b.drop k = b1 at *
  refine Ex.assign (pv := .int (-((0 : Nat) : Int))) (FEv.N (EvTN.eq (by walk_at "mine ev") (by rfl))) (by simp) (.inl rfl) (by walk_at "mine up") ?_
  refine Ex.while (Inv := fun m Γ' O' => ∃ j, Γ' = ([("a", .str (S a1)), ("b", .str (S b1)), ("max_cost", .int mc), ("pre", .int (k : Nat)), ("post", .int (-((j : Nat) : Int)))] : Ctx) ∧ O' = [] ∧ j ≤ a1.length ∧ j ≤ b1.length ∧ stripP a1.reverse b1.reverse = stripP (a1.reverse.drop j) (b1.reverse.drop j) ∧ m = a1.length - j) _ ⟨0, rfl, rfl, Nat.zero_le _, Nat.zero_le _, by simp, rfl⟩ fun m Γ' O' hI => ?_
  obtain ⟨j, rfl, rfl, hja, hjb, hst2, rfl⟩ := hI
  have ta : (a1.take (a1.length - j)).length ≤ 1000 := by simp; omega
  have tb : (b1.take (b1.length - j)).length ≤ 1000 := by simp; omega
  have jne : ∀ l : List Nat, (!(l.take (l.length - j)).isEmpty) = true → j < l.reverse.length := fun l h => by
    simp [List.take_eq_nil_iff] at h; simp; omega
  have hz1 : a1.length ≤ 1000 := by omega
  have hz2 : b1.length ≤ 1000 := by omega
  have itm : ∀ (l : List Nat) (x : PySem.Str) (p1 p2 p3 p4 p5 : Pos) (kk : Nat) (hv : (Ctx.loc [("a", .str (S a1)), ("b", .str (S b1)), ("max_cost", .int mc), ("pre", .int (k : Nat)), ("post", .int (-((j : Nat) : Int)))]) x = some (.str (S l))) (h : j < l.reverse.length) (hl : l.length ≤ 1000) (hd : (x == ("__debug__" : PySem.Str)) = false) (hc : (x == ("__classdict__" : PySem.Str)) = false),
      EvN W 1 (callEnvC fnLev.fd L 28) (Ctx.loc [("a", .str (S a1)), ("b", .str (S b1)), ("max_cost", .int mc), ("pre", .int (k : Nat)), ("post", .int (-((j : Nat) : Int)))]) (.Subscript (.Name x p1) (.BinOp (.Name "post" p2) .Sub (.Constant (.int 1) kk p3) p4) p5) (.str (S [l.reverse[j]])) := fun l x p1 p2 p3 p4 p5 kk hv h hl hd hc =>
    EvTN.itemS (EvT.name hv hd hc) (by walk_at "mine ev") (by simp at h; omega) (by omega) (get_neg (by simpa using h)) (fun _ _ => rfl)
  refine ⟨(!(a1.take (a1.length - j)).isEmpty) && ((!(b1.take (b1.length - j)).isEmpty) && ((if h : j < a1.reverse.length ∧ j < b1.reverse.length then decide (a1.reverse[j]'h.1 = b1.reverse[j]'h.2) else false) && true)), EvB.and (EvB.val (EvTN.ev (EvTN.less (by walk_at "mine ev") (evPost rfl _ _ _ _) hja hz1)) (Truth.S ta) (fun _ => rfl)) (fun h1 => EvB.and (EvB.val (EvTN.ev (EvTN.less (by walk_at "mine ev") (evPost rfl _ _ _ _) hjb hz2)) (Truth.S tb) (fun _ => rfl)) (fun h2 => EvB.and ?_ (fun _ => EvB.and_nil))), fun h => ?_, fun h => ?_⟩
  · have p1 := jne a1 h1
    have p2 := jne b1 h2
    rw [dif_pos ⟨p1, p2⟩]
    have e : decide (a1.reverse[j] = b1.reverse[j]) = (S [a1.reverse[j]] == S [b1.reverse[j]]) := by rw [S_beq]; simp
    rw [e]
    exact EvB.cmp (EvTN.ev (itm a1 "a" _ _ _ _ _ _ rfl p1 hz1 rfl rfl)) (EvTN.ev (itm b1 "b" _ _ _ _ _ _ rfl p2 hz2 rfl rfl)) Op2.eqs rfl
  · simp only [Bool.and_eq_true, and_true] at h
    obtain ⟨h1, h2, h3⟩ := h
    have p1 := jne a1 h1
    have p2 := jne b1 h2
    rw [dif_pos ⟨p1, p2⟩] at h3
    refine Ex.aug rfl (by walk_at "mine ev") (by walk_at "mine op") (by simp) (.inl rfl) (by walk_at "mine up") ?_
    have ej : (-(j : Int) - 1) = -((j + 1 : Nat) : Int) := by omega
    rw [ej]
    exact Ex.nil ⟨a1.length - (j + 1), by simp at p1; omega, j + 1, rfl, rfl, (by simp at p1; omega), (by simp at p2; omega), by rw [hst2]; exact stripP_drop p1 p2 (of_decide_eq_true h3), rfl⟩
  have hend2 : a1.reverse.length ≤ j ∨ b1.reverse.length ≤ j ∨ ∃ (ha : j < a1.reverse.length) (hb : j < b1.reverse.length), a1.reverse[j] ≠ b1.reverse[j] := by
    by_cases p1 : j < a1.reverse.length
    · by_cases p2 : j < b1.reverse.length
      · refine .inr (.inr ⟨p1, p2, fun q => ?_⟩)
        rw [dif_pos ⟨p1, p2⟩, decide_eq_true q] at h
        simp only [List.length_reverse] at p1 p2
        simp [List.take_eq_nil_iff] at h
        have := h (by omega) (fun q => by subst q; simp at p1) 
        rcases this with q | q
        · omega
        · subst q; simp at p2
      · exact .inr (.inl (by omega))
    · exact .inl (by omega)
  rw [stripP_end hend2] at hst2
  rw [hst2]
  simp only
  refine Ex.assign (FEv.N (EvTN.less (by walk_at "mine ev") (evPost rfl _ _ _ _) hja hz1)) (by simp) (.inl rfl) (by walk_at "mine up") ?_
  refine Ex.assign (FEv.N (EvTN.less (by walk_at "mine ev") (evPost rfl _ _ _ _) hjb hz2)) (by simp) (.inl rfl) (by walk_at "mine up") ?_
  rw [← take_rev, ← take_rev]
  have q1 : (a1.take (a1.length - j)).length ≤ 40 := by simp; omega
  have q2 : (b1.take (b1.length - j)).length ≤ 40 := by simp; omega
  have fin := ex_mid (mc := mc) (k := k) (j := j) (L := L) hW q1 q2
  show Ex W 1 (callEnvC fnLev.fd L 28) [("a", .str (S (a1.take (a1.length - j)))), ("b", .str (S (b1.take (b1.length - j)))), ("max_cost", .int mc), ("pre", .int (k : Nat)), ("post", .int (-(j : Int)))] [] (fnLev.body.drop 9) _ _
  refine fin.mono (fun _ _ q => q.elim) ?_
  intro a ha
  exact ha
end

noncomputable def baseOf (h : Int) : Int := if h ≥ 0 then 3 + h.fmod (1 * 2 ^ ((4500 : Int)).toNat) else -1 - (-h).fmod (1 * 2 ^ ((4500 : Int)).toNat)

section
variable {W : Wd} (hW : WOk W)
include hW

theorem sp_base (h : Int) : CallSp W 1 (.ref 131) [.int h] (.int (baseOf h)) := by
  refine callSp fnBase hW ["heap"] rfl (bind1 rfl fun _ => rfl) fun L => ?_
  show Ex W 0 _ [("heap", .int h)] [] _ _ _
  have s1 : (0 : Int) ≤ 4500 := by decide
  have s2 : (Builtin.Int.intBits 1 : Int) + (4500 : Int) ≤ (2 : Int) ^ 27 := by decide
  have s3 : (1 : Int) * 2 ^ ((4500 : Int)).toNat ≠ 0 := by
    rw [Int.one_mul]
    exact Int.ne_of_gt (Int.pow_pos (by decide))
  refine Ex.ifRet (by walk_at "mine b") (fun hc => Ex.ret (by walk_at "mine ev") ?_) fun hc => Ex.ret (by walk_at "mine ev") ?_
  · rw [baseOf, if_pos (of_decide_eq_true hc)]
  · rw [baseOf, if_neg (of_decide_eq_false hc)]
end

noncomputable def keptL (n : Nat) : List Nat := (List.range 4).filter fun k => n / 2 ^ k % 2 == 1
noncomputable def pickW (word : List Nat) (ks : List Nat) : List Nat := ks.map fun k => word.getD k 0
noncomputable def choiceOk (needed : List Nat) (n : Nat) : Bool := (needed.filter fun k => !(keptL n).contains k) == []
noncomputable def choicesL (word needed : List Nat) (m : Nat) : List (List Nat) := ((List.range m).filter (choiceOk needed)).map fun n => pickW word (keptL n)

theorem pylong_pow {x : Int} {k : Nat} (hk : k < 9000) : Builtin.divisionGoesByPylong x ((2 ^ k : Nat) : Int) = false := by
  refine pylong_no ?_
  rw [Int.natAbs_natCast]
  exact Nat.pow_lt_pow_right (by omega) hk
theorem EvB.cast {W : Wd} {d : Nat} {env : Env} {σ : Loc} {e : Expr} {b b' : Bool} (h : EvB W d env σ e b) (hb : b = b') : EvB W d env σ e b' := hb ▸ h
theorem EvI.cast {W : Wd} {d : Nat} {env : Env} {σ : Loc} {e : Expr} {xs ys : List PV} (h : EvI W d env σ e xs) (hb : xs = ys) : EvI W d env σ e ys := hb ▸ h
theorem Op2.notinNat {W : Wd} {d : Nat} {k : Nat} {ks : List Nat} : Op2 W d (compareOp .NotIn) (.int (k : Int)) (.list (natPV ks)) (.bool (!(ks.contains k))) := by
  have := Op2.notinInts (W := W) (d := d) (k := (k : Int)) (ns := ks.map fun (d : Nat) => (d : Int))
  rw [← natPV_ints] at this
  have e : (ks.map fun (d : Nat) => (d : Int)).any (· == (k : Int)) = ks.contains k := by
    rw [List.any_map, List.contains_eq_any_beq]
    congr 1
    funext x
    simp only [Function.comp]
    rw [Bool.eq_iff_iff]; simp; omega
  rw [e] at this
  exact this
theorem Op2.eqNat {W : Wd} {d : Nat} {ks ls : List Nat} : Op2 W d (compareOp .Eq) (.list (natPV ks)) (.list (natPV ls)) (.bool (ks == ls)) := by
  have := Op2.eqInts (W := W) (d := d) (ns := ks.map fun (d : Nat) => (d : Int)) (ms := ls.map fun (d : Nat) => (d : Int))
  rw [← natPV_ints, ← natPV_ints] at this
  have e : ((ks.map fun (d : Nat) => (d : Int)) == (ls.map fun (d : Nat) => (d : Int))) = (ks == ls) := by
    rw [Bool.eq_iff_iff, beq_iff_eq, beq_iff_eq]
    exact ⟨fun h => (List.map_inj_right (fun a b (q : ((a : Nat) : Int) = (b : Nat)) => by omega)).mp h, fun h => by rw [h]⟩
  rw [e] at this
  exact this
theorem flat1 {α : Type} (f : Nat → α) : ∀ l : List Nat, (l.map fun k => [f k]).flatten = l.map f
  | [] => rfl
  | a :: l => by rw [List.map_cons, List.flatten_cons, flat1 f l]; rfl
theorem sum1 {α : Type} (f : Nat → α) : ∀ l : List Nat, ((l.map fun k => [f k]).map List.length).sum = l.length
  | [] => rfl
  | a :: l => by rw [List.map_cons, List.map_cons, List.sum_cons, sum1 f l, List.length_cons]; simp; omega
theorem filter_all {α : Type} (l : List α) : l.filter (fun _ => true) = l := List.filter_eq_self.mpr fun _ _ => rfl
theorem catS_S (ls : List (List Nat)) : catS (ls.map S) = S ls.flatten := by
  unfold catS S
  congr 1
  congr 1
  induction ls with
  | nil => rfl
  | cons l ls ih => rw [List.map_cons, List.flatMap_cons, List.flatten_cons, ← ih]

section
variable {W : Wd} (hW : WOk W)
include hW

/-- a sign of a word -/
theorem ev_join {d : Nat} {env : Env} {σ : Loc} {e : Expr} {apos pos p : Pos} {k : Nat} {ls : List (List Nat)} (he : Ev W d env σ e (.list (strPV ls))) (hz : (ls.map List.length).sum ≤ 1000) (hst : starEach [e] env = [(false, eval e env)] := by rfl) (hline : (apos.endLine == pos.line) = true := by rfl)
    (hbase : attributeBase (.Constant (.str ⟨#[]⟩) k p) "join" env (eval (.Constant (.str ⟨#[]⟩) k p) env) = eval (.Constant (.str ⟨#[]⟩) k p) env := by rfl)
    (hfew : ((backTo pos (starEach [e] env)).all (fun x => !x.1) && (backToKw pos (keywordEach [] env)).all (fun x => x.1.isSome) && decide ([e].length + ([] : List Keyword).length + (if ([] : List Keyword).isEmpty then 0 else 1) < 30)) = true := by rfl) :
    EvN W d env σ (.Call (.Attribute (.Constant (.str ⟨#[]⟩) k p) "join" apos) [e] [] pos) (.str (S ls.flatten)) := by
  rw [strPV_strs] at he
  have hl : ((ls.map S).map (·.length)).sum ≤ 1000000 := by
    have : ((ls.map S).map (·.length)) = ls.map List.length := by
      rw [List.map_map]; apply List.map_congr_left; intro a _; exact S_length a
    rw [this]; omega
  have := EvTN.meth1 hbase hline PySem.F.plainAttrs_str PySem.F.slot_str_join PySem.F.type_str_join hfew hst (EvTN.ev EvTN.cstr) isT_str he (CallSp.join hl)
  rw [catS_S] at this
  exact this

theorem sp_choices {word needed : List Nat} (hw : word.length = 4) (hn : needed.length ≤ 10) : CallSp W 2 (.ref 148) [.str (S word), .list (natPV needed)] (.list (strPV (choicesL word needed 16))) := by
  refine callSp fnChoices hW ["word", "needed"] rfl (bind2 rfl fun _ _ => rfl) fun L => ?_
  show Ex W 1 _ [("word", .str (S word)), ("needed", .list (natPV needed))] [] _ _ _
  refine Ex.assignOwn (xs := strPV []) (FOwn.disp EvLN.nil (by simp [strPV, sizeLine])) (by simp) (.inl rfl) (by walk_at "mine up") ?_
  refine Ex.for (FI.V (EvI.rng1 (n := 16) (by walk_at "mine fn") (EvL.cons (EvTN.ev EvTN.cint) EvL.nil rfl) (by omega))) (fun i Γ' O' => Γ' = ([("word", .str (S word)), ("needed", .list (natPV needed)), ("choices", .list (strPV (choicesL word needed i)))] : Ctx) ∧ O' = (["choices"] : List PySem.Str)) ⟨rfl, rfl⟩ (.inr rfl) (fun i y Γ' O' hy hI => ?_) fun Γ' O' hI => ?_
  · obtain ⟨rfl, rfl⟩ := hI
    have hi : i < 16 := by
      rcases Nat.lt_or_ge i 16 with h | h
      · exact h
      · rw [List.getElem?_eq_none (by simpa using h)] at hy; cases hy
    have hy' : y = .int (i : Nat) := by simp [hi] at hy; exact hy.symm
    subst hy'
    refine ⟨by decide, _, by walk_at "mine up", ?_⟩
    have pw : ∀ k, k < 4 → (2 : Int) ^ ((k : Nat) : Int).toNat = ((2 ^ k : Nat) : Int) := fun k _ => by simp
    refine Ex.assign (pv := .list (natPV (keptL i))) (FEv.N (EvTN.compN (ks := List.range 4) (p := fun k => i / 2 ^ k % 2 == 1) (f := fun k => .int (k : Int)) rfl (EvI.rng1 (n := 4) (by walk_at "mine fn") (EvL.cons (EvTN.ev EvTN.cint) EvL.nil rfl) (by omega)) (by simp)
        (fun C cl hcl k hk => EvTests.one ?_) (fun C cl hcl k hk _ => by walk_at "mine ev") (fun k _ _ => rfl))) (by decide) (.inr rfl) (by walk_at "mine up") ?_
    · have hk4 : k < 4 := List.mem_range.mp hk
      have a1 : (0 : Int) ≤ k := by omega
      have a2 : (Builtin.Int.intBits 2 : Int) * (k : Int) ≤ 2 ^ 27 := by
        have : (Builtin.Int.intBits 2 : Int) = 2 := by decide
        rw [this]; omega
      have a3 : (2 : Int) ^ ((k : Nat) : Int).toNat ≠ 0 := by rw [pw k hk4]; have := Nat.two_pow_pos k; omega
      have a4 : Builtin.divisionGoesByPylong (i : Int) ((2 : Int) ^ ((k : Nat) : Int).toNat) = false := by rw [pw k hk4]; exact pylong_pow (by omega)
      have a5 : (2 : Int) ≠ 0 := by decide
      refine EvB.cast (by walk_at "mine b") ?_
      rw [pw k hk4, fdiv_nat]
      have e := fmod_nat (i / 2 ^ k) 2
      rw [show ((2 : Nat) : Int) = 2 from rfl] at e
      rw [e]
      generalize i / 2 ^ k % 2 = z
      rw [Bool.eq_iff_iff, beq_iff_eq, beq_iff_eq]; omega
    have next : choicesL word needed (i + 1) = choicesL word needed i ++ (if choiceOk needed i then [pickW word (keptL i)] else []) := by
      unfold choicesL
      rw [List.range_succ, List.filter_append, List.map_append]
      congr 1
      cases h : choiceOk needed i <;> simp [h]
    refine Ex.iff (b := choiceOk needed i) (N₁ := fun Γ' O' => Γ' = ([("word", .str (S word)), ("needed", .list (natPV needed)), ("choices", .list (strPV (choicesL word needed (i + 1)))), ("number", .int (i : Nat)), ("kept", .list (natPV (keptL i)))] : Ctx) ∧ O' = (["choices"] : List PySem.Str))
      (EvB.cmp (EvTN.ev (EvTN.eq (pv' := .list (natPV (needed.filter fun k => !(keptL i).contains k))) (EvTN.compN (ks := needed) (p := fun k => !(keptL i).contains k) (f := fun k => .int (k : Int)) rfl (EvI.list (by walk_at "mine ev")) (by omega)
        (fun C cl hcl k hk => EvTests.one (EvB.cmp (by walk_at "mine ev") (by walk_at "mine ev") Op2.notinNat rfl)) (fun C cl hcl k hk _ => by walk_at "mine ev") (fun k _ _ => rfl)) rfl)) (EvTN.ev (EvTN.list (xs := natPV []) EvLN.nil (by simp [natPV, sizeLine]))) Op2.eqNat rfl) (fun h => ?_) (fun h => ?_) fun Γ' O' hN => ?_
    · have hkl : ∀ k ∈ keptL i, k < 4 := fun k hk => List.mem_range.mp (List.mem_filter.mp hk).1
      have hlen : (keptL i).length ≤ 4 := by
        have := List.length_filter_le (fun k => i / 2 ^ k % 2 == 1) (List.range 4)
        simpa [keptL] using this
      have hflat : ((keptL i).map fun k => [word.getD k 0]).flatten = pickW word (keptL i) := flat1 _ _
      have hsum : (((keptL i).map fun k => [word.getD k 0]).map List.length).sum ≤ 1000 := by rw [sum1]; omega
      refine Ex.append (pv := .str (S (pickW word (keptL i)))) (by simp) rfl (FEv.N (EvTN.eq (ev_join hW (ls := (keptL i).map fun k => [word.getD k 0]) (EvTN.ev (EvTN.eq (EvTN.compN (ks := keptL i) (p := fun _ => true) (f := fun k => strEmb [word.getD k 0]) rfl (EvI.list (by walk_at "mine ev")) (by omega) (fun C cl hcl k hk => EvTests.nil)
        (fun C cl hcl k hk _ => ?_) (fun k _ _ => rfl)) ?_)) hsum) (by rw [hflat]))) ?_ (by walk_at "mine up") ?_
      · have hk4 : k < word.length := by rw [hw]; exact hkl k hk
        have e : word.getD k 0 = word[k] := by simp [hk4]
        rw [strEmb, e]
        exact EvTN.ev (EvTN.atS (by walk_at "mine ev") (by walk_at "mine ev") hk4 (by omega) (fun _ _ => rfl))
      · rw [filter_all, strPV, List.map_map]; rfl
      · rw [strPV_length]
        have : (choicesL word needed i).length ≤ i := by
          unfold choicesL
          rw [List.length_map]
          have := List.length_filter_le (choiceOk needed) (List.range i)
          simpa using this
        omega
      · refine Ex.nil ⟨?_, rfl⟩
        rw [next, h, if_pos rfl, strPV, strPV, List.map_append]; rfl
    · refine Ex.nil ⟨?_, rfl⟩
      rw [next, h, if_neg Bool.false_ne_true, List.append_nil]; rfl
    · obtain ⟨rfl, rfl⟩ := hN
      exact Ex.done (by repeat' (first | exact Ctx.Le.nil | refine Ctx.Le.cons rfl ?_)) (fun x hx => by simp only [List.mem_singleton] at hx; subst hx; rfl) ⟨rfl, rfl⟩
  · obtain ⟨rfl, rfl⟩ := hI
    exact Ex.retOwn (by simp) rfl (strPV_imm _) (by simp)
end

/-- the Moebius numbers, as the code counts them -/
noncomputable def numTurn (ts : List (List Nat)) (nums : List Int) (k j : Nat) (here : Int) : Option Int :=
  let tj := ts.getD j []
  let tk := ts.getD k []
  let more := 2 * ((tj.length : Int) - tk.length)
  if more > 0 then
    let told := if (j + k) % 2 = 0 then lev tk tj (if tk = [] then 0 else more) else lev tj tk (more + k)
    if told < more then none else some (if told = more then here - nums.getD j 0 else here)
  else some here
noncomputable def numInner (ts : List (List Nat)) (nums : List Int) (k : Nat) : Nat → Option Int
  | 0 => some 0
  | j + 1 => (numInner ts nums k j).bind (numTurn ts nums k j)
noncomputable def numOuter (ts : List (List Nat)) : Nat → Option (List Int)
  | 0 => some [1]
  | k + 1 => (numOuter ts k).bind fun nums => (numInner ts nums (k + 1) (k + 1)).map fun h => nums ++ [h]
noncomputable def numbersOf (ts : List (List Nat)) : List Int := (numOuter ts (ts.length - 1)).getD []

theorem numInner_none {ts : List (List Nat)} {nums : List Int} {k j : Nat} (h : numInner ts nums k j = none) : ∀ j', j ≤ j' → numInner ts nums k j' = none := by
  intro j' hj
  induction hj with
  | refl => exact h
  | step _ ih => rw [numInner, ih]; rfl
theorem numOuter_none {ts : List (List Nat)} {k : Nat} (h : numOuter ts k = none) : ∀ k', k ≤ k' → numOuter ts k' = none := by
  intro k' hk
  induction hk with
  | refl => exact h
  | step _ ih => rw [numOuter, ih]; rfl

section
variable {W : Wd} (hW : WOk W)
include hW

theorem sp_numbers {ts : List (List Nat)} (h1 : 1 ≤ ts.length) (h20 : ts.length ≤ 20) (hts : ∀ t ∈ ts, t.length ≤ 40) : CallSp W 3 (.ref 143) [.list (strPV ts)] (.list (intPV (numbersOf ts))) := by
  have hl : (strPV ts).length ≤ 1000 := by rw [strPV_length]; omega
  have hle : (strPV ts).length = ts.length := strPV_length ts
  refine callSp fnNumbers hW ["texts"] rfl (bind1 rfl fun _ => rfl) fun L => ?_
  show Ex W 2 _ [("texts", .list (strPV ts))] [] _ _ _
  refine Ex.assignOwn (xs := intPV [1]) (FOwn.disp (EvLN.cons EvTN.cint EvLN.nil rfl) (by simp [intPV, sizeLine])) (by simp) (.inl rfl) (by walk_at "mine up") ?_
  have lenT : ∀ (Γ : Ctx) (O : List PySem.Str) (p1 p2 p3 : Pos), (Γ.loc.without O) "texts" = some (.list (strPV ts)) → EvN W 2 (callEnvC fnNumbers.fd L 143) (Γ.loc.without O) (.Call (.Name "len" p1) [.Name "texts" p2] [] p3) (.int (ts.length : Nat)) := fun Γ O p1 p2 p3 h => by
    have e := EvTN.call (W := W) (d := 2) (env := callEnvC fnNumbers.fd L 143) (σ := Γ.loc.without O) (pos := p3) (p := p1) (f := "len") (e := .Name "texts" p2) (rest := []) (gnb hW rfl (fun P => rfl) rfl (by decide)) (.inl ⟨_, rfl⟩) (EvL.cons (EvT.name h rfl rfl) EvL.nil rfl) rfl rfl (CallSp.lenN hl)
    rw [hle] at e
    exact e
  refine Ex.for (xs := (List.range (ts.length - 1)).map fun (i : Nat) => PV.int ((1 + i : Nat) : Int)) (FI.V (EvI.rng2 (a := 1) (b := ts.length) (by walk_at "mine fn") (EvL.cons (EvTN.ev EvTN.cint) (EvL.cons (EvTN.ev (lenT _ _ _ _ _ rfl)) EvL.nil rfl) rfl) h1 (by omega)))
    (fun i Γ' O' => ∃ nums, Γ' = ([("texts", .list (strPV ts)), ("numbers", .list (intPV nums))] : Ctx) ∧ O' = (["numbers"] : List PySem.Str) ∧ numOuter ts i = some nums ∧ nums.length = i + 1) ⟨[1], rfl, rfl, rfl, rfl⟩ (.inl rfl) (fun i y Γ' O' hy hI => ?_) fun Γ' O' hI => ?_
  · obtain ⟨nums, rfl, rfl, hno, hnl⟩ := hI
    have hi : i < ts.length - 1 := by
      rcases Nat.lt_or_ge i (ts.length - 1) with h | h
      · exact h
      · rw [List.getElem?_eq_none (by simpa using h)] at hy; cases hy
    obtain ⟨k, hk⟩ : ∃ k, k = i + 1 := ⟨_, rfl⟩
    have hy' : y = .int (k : Nat) := by
      have e : 1 + i = k := by omega
      simp [hi] at hy
      rw [← hy]
      congr 1
      omega
    subst hy'
    have hkt : k < ts.length := by omega
    refine ⟨by decide, _, by walk_at "mine up", ?_⟩
    refine Ex.assign (FEv.N EvTN.cint) (by decide) (.inl rfl) (by walk_at "mine up") ?_
    refine Ex.for (FI.V (EvI.rng1 (n := k) (by walk_at "mine fn") (by walk_at "mine args") (by omega))) (fun j Γ' O' => ∃ here, Γ' = ([("texts", .list (strPV ts)), ("numbers", .list (intPV nums)), ("k", .int (k : Nat)), ("here", .int here)] : Ctx) ∧ O' = (["numbers"] : List PySem.Str) ∧ numInner ts nums k j = some here) ⟨0, rfl, rfl, rfl⟩ (.inl rfl) (fun j y Γ' O' hy hI => ?_) fun Γ' O' hI => ?_
    · obtain ⟨here, rfl, rfl, hni⟩ := hI
      have hj : j < k := by
        rcases Nat.lt_or_ge j k with h | h
        · exact h
        · rw [List.getElem?_eq_none (by simpa using h)] at hy; cases hy
      have hy' : y = .int (j : Nat) := by simp [hj] at hy; exact hy.symm
      subst hy'
      have hjt : j < ts.length := by omega
      refine ⟨by decide, _, by walk_at "mine up", ?_⟩
      have itm : ∀ (σ : Loc) (n : Nat) (x : PySem.Str) (p1 p2 p3 : Pos) (hn : n < ts.length), σ "texts" = some (.list (strPV ts)) → σ x = some (.int (n : Nat)) → (x == ("__debug__" : PySem.Str)) = false → (x == ("__classdict__" : PySem.Str)) = false →
          EvN W 2 (callEnvC fnNumbers.fd L 143) σ (.Subscript (.Name "texts" p1) (.Name x p2) p3) (.str (S ts[n])) := fun σ n x p1 p2 p3 hn h1 h2 h3 h4 =>
        EvT.imm (EvT.item (k := (n : Int)) (EvT.name h1 rfl rfl) (EvT.name h2 h3 h4) (by omega) (by omega) (by simp [strPV, strEmb, hn]) (fun _ _ => rfl)) rfl
      have lenI : ∀ (σ : Loc) (n : Nat) (x : PySem.Str) (p1 p2 p3 p4 p5 : Pos) (hn : n < ts.length), σ "texts" = some (.list (strPV ts)) → σ x = some (.int (n : Nat)) → (x == ("__debug__" : PySem.Str)) = false → (x == ("__classdict__" : PySem.Str)) = false →
          EvN W 2 (callEnvC fnNumbers.fd L 143) σ (.Call (.Name "len" p4) [.Subscript (.Name "texts" p1) (.Name x p2) p3] [] p5) (.int (ts[n].length : Nat)) := fun σ n x p1 p2 p3 p4 p5 hn h1 h2 h3 h4 =>
        EvTN.call (gnb hW rfl (fun P => rfl) rfl (by decide)) (.inl ⟨_, rfl⟩) (EvL.cons (EvTN.ev (itm σ n x p1 p2 p3 hn h1 h2 h3 h4)) EvL.nil rfl) rfl rfl (CallSp.lenS (by have := hts _ (List.getElem_mem hn); omega))
      have s1 : IntMulOk 2 (((ts[j].length : Nat) : Int) - ((ts[k].length : Nat) : Int)) := IntMulOk.of_left (by decide)
      obtain ⟨more, hmore⟩ : ∃ more : Int, more = 2 * (((ts[j].length : Nat) : Int) - ((ts[k].length : Nat) : Int)) := ⟨_, rfl⟩
      refine Ex.assign (pv := .int more) (FEv.N (EvTN.eq (EvTN.binop (EvTN.ev EvTN.cint) (EvTN.ev (EvTN.binop (EvTN.ev (lenI _ j "j" _ _ _ _ _ hjt rfl rfl rfl rfl)) (EvTN.ev (lenI _ k "k" _ _ _ _ _ hkt rfl rfl rfl rfl)) Op2.sub)) (Op2.mul s1)) (by rw [hmore]))) (by decide) (.inl rfl) (by walk_at "mine up") ?_
      have htk : ts[k].length ≤ 40 := hts _ (List.getElem_mem hkt)
      have htj : ts[j].length ≤ 40 := hts _ (List.getElem_mem hjt)
      have gj : ts.getD j [] = ts[j] := by simp [hjt]
      have gk : ts.getD k [] = ts[k] := by simp [hkt]
      generalize hTj : ts[j] = tj at *
      generalize hTk : ts[k] = tk at *
      have hnums : j < nums.length := by omega
      have gn : nums.getD j 0 = nums[j] := by simp [hnums]
      -- what a turn does
      refine Ex.iff (N₁ := fun Γ' O' => O' = (["numbers"] : List PySem.Str) ∧ ∃ here', numTurn ts nums k j here = some here' ∧ Ctx.Le ([("texts", .list (strPV ts)), ("numbers", .list (intPV nums)), ("k", .int (k : Nat)), ("here", .int here')] : Ctx) Γ') (by walk_at "mine b") (fun hm => ?_) (fun hm => ?_) fun Γ' O' hN => ?_
      · have hm' : more > 0 := of_decide_eq_true hm
        obtain ⟨told, htold⟩ : ∃ told, told = if (j + k) % 2 = 0 then lev tk tj (if tk = [] then 0 else more) else lev tj tk (more + k) := ⟨_, rfl⟩
        have turn : numTurn ts nums k j here = if told < more then none else some (if told = more then here - nums.getD j 0 else here) := by
          unfold numTurn
          rw [gj, gk]
          simp only
          rw [← hmore, if_pos hm', ← htold]
        have a2 : (2 : Int) ≠ 0 := by decide
        refine Ex.iff (N₁ := fun Γ' O' => Γ' = ([("texts", .list (strPV ts)), ("numbers", .list (intPV nums)), ("k", .int (k : Nat)), ("here", .int here), ("j", .int (j : Nat)), ("more", .int more), ("told", .int told)] : Ctx) ∧ O' = (["numbers"] : List PySem.Str)) (b := decide ((j + k) % 2 = 0)) (EvB.cast (by walk_at "mine b") ?_) (fun hp => ?_) (fun hp => ?_) fun Γ' O' hN => ?_
        · have e := fmod_nat (j + k) 2
          rw [show ((2 : Nat) : Int) = 2 from rfl, Int.natCast_add] at e
          rw [e]
          generalize (j + k) % 2 = z
          rw [Bool.eq_iff_iff, beq_iff_eq, decide_eq_true_eq]; omega
        · have hp' : (j + k) % 2 = 0 := of_decide_eq_true hp
          rw [if_pos hp'] at htold
          subst htold
          have sl := sp_lev hW (a := tk) (b := tj) (mc := if tk = [] then 0 else more) htk htj
          refine Ex.assign (FEv.N (EvTN.call (by walk_at "mine fn") (by exact (fnLev.ok hW).callee) (EvL.cons (EvTN.ev (EvTN.eq (itm _ k "k" _ _ _ hkt rfl rfl rfl rfl) (by rw [hTk]))) (EvL.cons (EvTN.ev (EvTN.eq (itm _ j "j" _ _ _ hjt rfl rfl rfl rfl) (by rw [hTj]))) (EvL.cons (EvTN.ev (EvTN.ite (c := .int (if tk = [] then 0 else more)) (EvB.val (EvTN.ev (EvTN.eq (itm _ k "k" _ _ _ hkt rfl rfl rfl rfl) (by rw [hTk]))) (Truth.S (l := tk) (by omega)) (fun _ => rfl)) (fun hb => EvTN.eq (by walk_at "mine ev") ?_) (fun hb => EvTN.eq (by walk_at "mine ev") ?_))) EvL.nil rfl) rfl) rfl) rfl rfl sl)) (by decide) (.inl rfl) (by walk_at "mine up") ?_
          · have : tk ≠ [] := by intro q; subst q; simp at hb
            rw [if_neg this]
          · have : tk = [] := by simpa using hb
            rw [if_pos this]
          · exact Ex.nil ⟨rfl, rfl⟩
        · have hp' : ¬ (j + k) % 2 = 0 := of_decide_eq_false hp
          rw [if_neg hp'] at htold
          subst htold
          have sl := sp_lev hW (a := tj) (b := tk) (mc := more + k) htj htk
          refine Ex.assign (FEv.N (EvTN.call (by walk_at "mine fn") (by exact (fnLev.ok hW).callee) (EvL.cons (EvTN.ev (EvTN.eq (itm _ j "j" _ _ _ hjt rfl rfl rfl rfl) (by rw [hTj]))) (EvL.cons (EvTN.ev (EvTN.eq (itm _ k "k" _ _ _ hkt rfl rfl rfl rfl) (by rw [hTk]))) (EvL.cons (by walk_at "mine ev") EvL.nil rfl) rfl) rfl) rfl rfl sl)) (by decide) (.inl rfl) (by walk_at "mine up") ?_
          exact Ex.nil ⟨rfl, rfl⟩
        · obtain ⟨rfl, rfl⟩ := hN
          refine Ex.ifRet (by walk_at "mine b") (fun hlt => Ex.ret (EvTN.list (xs := intPV []) EvLN.nil (by simp [intPV, sizeLine])) ?_) fun hlt => ?_
          · have hlt' : told < more := of_decide_eq_true hlt
            rw [if_pos hlt'] at turn
            have n1 : numInner ts nums k (j + 1) = none := by rw [numInner, hni]; exact turn
            have n2 := numInner_none n1 k (by omega)
            have n3 : numOuter ts (i + 1) = none := by
              rw [numOuter, hno]
              show Option.map _ (numInner ts nums (i + 1) (i + 1)) = _
              rw [← hk, n2]; rfl
            have n4 := numOuter_none n3 (ts.length - 1) (by omega)
            rw [numbersOf, n4]; rfl
          · have hlt' : ¬ told < more := of_decide_eq_false hlt
            rw [if_neg hlt'] at turn
            refine Ex.iff (N₁ := fun Γ' O' => O' = (["numbers"] : List PySem.Str) ∧ ∃ here', numTurn ts nums k j here = some here' ∧ Ctx.Le ([("texts", .list (strPV ts)), ("numbers", .list (intPV nums)), ("k", .int (k : Nat)), ("here", .int here')] : Ctx) Γ') (by walk_at "mine b") (fun he => ?_) (fun he => ?_) fun Γ' O' hN => Ex.nil hN
            · have he' : told = more := beq_iff_eq.mp he
              rw [if_pos he', gn] at turn
              have ss := (sp_sub hW here nums[j]).up (show 1 ≤ 2 by omega)
              refine Ex.assign (FEv.N (EvTN.call (by walk_at "mine fn") (by exact (fnSub.ok hW).callee) (EvL.cons (by walk_at "mine ev") (EvL.cons (EvT.item (k := (j : Int)) (r := .int nums[j]) (by walk_at "mine ev") (by walk_at "mine ev") (by omega) (by omega) (intPV_get hnums) (fun _ _ => rfl)) EvL.nil rfl) rfl) rfl rfl ss)) (by decide) (.inl rfl) (by walk_at "mine up") ?_
              exact Ex.nil ⟨rfl, _, turn, by repeat' (first | exact Ctx.Le.nil | refine Ctx.Le.cons rfl ?_)⟩
            · have he' : ¬ told = more := beq_eq_false_iff_ne.mp he
              rw [if_neg he'] at turn
              exact Ex.nil ⟨rfl, _, turn, by repeat' (first | exact Ctx.Le.nil | refine Ctx.Le.cons rfl ?_)⟩
      · have hm' : ¬ more > 0 := of_decide_eq_false hm
        refine Ex.nil ⟨rfl, here, ?_, by repeat' (first | exact Ctx.Le.nil | refine Ctx.Le.cons rfl ?_)⟩
        unfold numTurn
        rw [gj, gk]
        simp only
        rw [← hmore, if_neg hm']
      · obtain ⟨rfl, here', hturn, hle'⟩ := hN
        refine Ex.done hle' (fun x hx => by simp only [List.mem_singleton] at hx; subst hx; exact (hle' "numbers" _ rfl).symm) ⟨here', rfl, rfl, ?_⟩
        rw [numInner, hni]; exact hturn
    · obtain ⟨here, rfl, rfl, hni⟩ := hI
      simp only [List.length_map, List.length_range] at hni
      refine Ex.append (by simp) rfl (FEv.N (by walk_at "mine ev")) (by rw [intPV_length]; omega) (by walk_at "mine up") ?_
      refine Ex.done (Γ' := [("texts", .list (strPV ts)), ("numbers", .list (intPV (nums ++ [here])))]) (Ctx.Le.cons rfl (Ctx.Le.cons (by simp [intPV]; rfl) Ctx.Le.nil)) (fun x hx => by simp only [List.mem_singleton] at hx; subst hx; simp [intPV]; rfl) ⟨nums ++ [here], rfl, rfl, ?_, by simp [hnl]⟩
      rw [numOuter, hno]
      subst hk
      show Option.map _ (numInner ts nums (i + 1) (i + 1)) = _
      rw [hni]; rfl
  · obtain ⟨nums, rfl, rfl, hno, hnl⟩ := hI
    simp only [List.length_map, List.length_range] at hno
    exact Ex.retOwn (by simp) rfl (intPV_imm _) (by simp [numbersOf, hno])
end

noncomputable def seedsL : List Int := [0, 0, 1, 2, 64, 32, 65, -10]
noncomputable def heapsOf (script : List Int) : List Int := (List.range 8).map fun k => seedsL.getD k 0 + (pickL script (some (k : Int)) none (some 8)).sum
theorem pickL_map {α β : Type} (f : α → β) (xs : List α) (a b c : Option Int) : pickL (xs.map f) a b c = (pickL xs a b c).map f := by
  unfold pickL
  rw [List.length_map]
  generalize sliceRange _ _ _ = ix
  induction ix with
  | nil => rfl
  | cons i ix ih =>
    simp only [List.filterMap_cons, List.getElem?_map]
    cases h : xs[i]? with
    | none => simpa using ih
    | some x => simpa using ih

section
variable {W : Wd} (hW : WOk W)
include hW

theorem sp_heaps {script : List Int} (hs : script.length ≤ 1000) : CallSp W 2 (.ref 124) [.list (intPV script)] (.list (intPV (heapsOf script))) := by
  refine callSp fnHeaps hW ["script"] rfl (bind1 rfl fun _ => rfl) fun L => ?_
  show Ex W 1 _ [("script", .list (intPV script))] [] _ _ _
  refine Ex.assign (pv := .list (intPV seedsL)) (FEv.N (EvTN.eq (EvTN.list (by walk_at "mine argsN") (by simp [sizeLine])) (by rfl))) (by simp) (.inr rfl) (by walk_at "mine up") ?_
  refine Ex.ret (EvTN.eq (EvTN.compN (ks := List.range 8) (p := fun _ => true) (f := fun k => .int (seedsL.getD k 0 + (pickL script (some (k : Int)) none (some 8)).sum)) rfl (EvI.rng1 (n := 8) (by walk_at "mine fn") (EvL.cons (EvTN.ev EvTN.cint) EvL.nil rfl) (by omega)) (by simp) (fun C cl hcl k hk => EvTests.nil)
    (fun C cl hcl k hk _ => ?_) (fun k _ _ => rfl)) ?_) rfl
  · have hk8 : k < 8 := List.mem_range.mp hk
    have hget : (intPV seedsL)[((k : Nat) : Int).toNat]? = some (.int (seedsL.getD k 0)) := by
      have h : k < seedsL.length := by simp [seedsL]; omega
      rw [intPV_get h]; simp [h]
    refine EvTN.ev (EvTN.binop (EvT.item (k := (k : Int)) (by walk_at "mine ev") (by walk_at "mine ev") (by omega) (by omega) hget (fun _ _ => rfl)) (EvTN.ev (EvTN.call (by walk_at "mine fn") (.inl ⟨_, rfl⟩) (EvL.cons (EvTN.ev (EvTN.eq (EvTN.sliceL (a := some (k : Int)) (b := none) (c := some 8) (by walk_at "mine ev") (EvP.int (by walk_at "mine ev")) EvP.none (EvP.int (EvTN.ev EvTN.cint)) (by decide) (by rw [intPV_length]; simp [sizeLine]; omega) (intPV_imm _)) (by rw [intPV, pickL_map]))) EvL.nil rfl) rfl rfl CallSp.sumInts)) Op2.add)
  · rw [filter_all, heapsOf, intPV, List.map_map]; rfl
end

theorem CallSp.hasGet' {W : Wd} {d : Nat} {xs : List PV} : CallSp W d (.builtin "hasattr") [.list xs, .str "__getitem__"] (.bool true) := CallSp.hasGet
noncomputable def countL (ls : List (List Nat)) (t : List Nat) : Nat := (ls.filter fun x => x == t).length

section
variable {W : Wd} (hW : WOk W)
include hW

theorem sp_concat {a b : List Int} (hl : a.length + b.length ≤ 1000) : CallSp W 1 (.ref 98) [.list (intPV a), .list (intPV b)] (.list (intPV (a ++ b))) := by
  refine callSp fnConcat hW ["a", "b"] rfl (bind2 rfl fun _ _ => rfl) fun L => ?_
  show Ex W 0 _ [("a", .list (intPV a)), ("b", .list (intPV b))] [] _ _ _
  refine Ex.ifRet (b := false) (EvB.cast (EvB.not (EvB.val (EvTN.ev (EvTN.call (by walk_at "mine fn") (.inl ⟨_, rfl⟩) (by walk_at "mine args") rfl rfl CallSp.hasGet)) Truth.bool (fun _ => rfl))) rfl) (fun h => (by cases h)) fun h => ?_
  refine Ex.ret (EvTN.eq (EvTN.binop (by walk_at "mine ev") (by walk_at "mine ev") (Op2.cat (intPV_imm a) (intPV_imm b) (by rw [intPV_length, intPV_length]; simp [sizeLine]; omega))) (by simp [intPV])) rfl

theorem notTold {g : Heap} {s : Shared} {t : Tok} {A : Around} {E : Value → Shared → Prop} {Q : Bool → Shared → Prop} (G : Glob W g) (le : HLe g s.heap) (h : Q false s) : wpAny W.M A (sharingNotTold t) Q E s := by
  have e2 : nsIn W.K cStatics sharingNotToldKey = some none := by rw [hW.K]; rfl
  unfold sharingNotTold
  exact wpAny_bind (looks_nsIn G.inK e2 A _ E s le (wpAny_pure h))
theorem isText {g : Heap} {s : Shared} {x : PySem.Str} {t u : Tok} {A : Around} {E : Value → Shared → Prop} {Q : Bool → Shared → Prop} (G : Glob W g) (le : HLe g s.heap) (h0 : (t == 0 || u == 0) = false) (h : ∀ b, Q b s) : wpAny W.M A (isSame (.str x t) (.str x u)) Q E s := by
  show wpAny W.M A (isSame.created (x == x) t u) Q E s
  unfold isSame.created
  rw [h0, beq_self_eq_true]
  cases htu : t == u
  · refine wpAny_bind (notTold hW G le ?_)
    exact wpAny_bind (notTold hW G le (wpAny_bind (wpAny_rule (wpAny_bind (wpAny_askSetting (wpAny_pure (h _)))))))
  · exact wpAny_pure (h _)

/-- one text, or the same signs -/
theorem ev_isOrEq {d : Nat} {env : Env} {σ : Loc} {l r l2 r2 : Expr} {p q pos : Pos} {x y : PySem.Str} (hl : Ev W d env σ l (.str x)) (hr : Ev W d env σ r (.str y)) (hl2 : Ev W d env σ l2 (.str x)) (hr2 : Ev W d env σ r2 (.str y)) (hm : behindInMarks .Is r = false) (hm2 : behindInMarks .Eq r2 = false) :
    EvB W d env σ (.BoolOp .Or [.Compare l [.Is] [r] p, .Compare l2 [.Eq] [r2] q] pos) (x == y) := by
  intro g la V A s E hR hB hE
  have first : wpAny W.M A (isTrue (.Compare l [.Is] [r] p) env (eval (.Compare l [.Is] [r] p) env)) (fun c s' => ∃ l', Ext W la s l' s' ∧ (c = true → x = y)) E s := by
    refine wpAny_isTrue_Compare1 (wpAny_mono (hl g la V A s E hR hB hE) (fun va s₁ q₁ => ?_) fun _ _ x => x) hm
    obtain ⟨l₁, e1, r1⟩ := q₁
    have hB₁ := hB.ext e1
    refine wpAny_mono (hr g l₁ V A s₁ E hR hB₁ (hE.ext hB.ti e1)) (fun vb s₂ q₂ => ?_) fun _ _ x => x
    obtain ⟨l₂, e2, r2⟩ := q₂
    cases r1 with
    | str _ t ht =>
      cases r2 with
      | str _ u hu =>
        have ht2 := e2.ll t x ht
        have hB₂ := hB₁.ext e2
        have n1 := (hB₂.tok.lt t x ht2).1
        have n2 := (hB₂.tok.lt u y hu).1
        have h0 : (t == 0 || u == 0) = false := by
          rw [Bool.or_eq_false_iff]; exact ⟨beq_eq_false_iff_ne.mpr n1, beq_eq_false_iff_ne.mpr n2⟩
        refine wpAny_bind (m := isSame (.str x t) (.str y u)) ?_
        have fin : ∀ b : Bool, (b = true → x = y) → wpAny W.M A (truthy (.bool b)) (fun c s' => ∃ l', Ext W la s l' s' ∧ (c = true → x = y)) E s₂ := fun b hb => wpAny_truthy_bool ⟨_, e1.trans e2, hb⟩
        by_cases hxy : x = y
        · subst hxy; exact isText hW hB₂.gl hB₂.le h0 (fun b => wpAny_pure (fin b fun _ => rfl))
        · have huv : (t == u) = false := by
            rw [beq_eq_false_iff_ne]; intro q; subst q
            rw [hu] at ht2; exact hxy (Option.some.inj ht2).symm
          rw [isSame_str_other x y t u h0 huv (beq_eq_false_iff_ne.mpr hxy)]
          exact wpAny_pure (wpAny_pure (fin false (by intro q; cases q)))
  refine isTrue_or (wpAny_mono first (fun c' s₁ q₁ => ?_) fun _ _ x => x)
  obtain ⟨l₁, e1, hc⟩ := q₁
  cases c' with
  | false =>
    simp only [Bool.false_eq_true, if_false]
    rw [isTrue_boolop_whole _ (eval (.BoolOp .Or [.Compare l2 [.Eq] [r2] q] pos) env)]
    refine wpAny_mono (EvB.or (EvB.cmp hl2 hr2 Op2.eqs hm2) (fun _ => EvB.or_nil) g l₁ V A s₁ E hR (hB.ext e1) (hE.ext hB.ti e1)) (fun c s' q => ?_) fun _ _ x => x
    obtain ⟨l2, e2, hb⟩ := q
    exact ⟨_, e1.trans e2, by rw [hb]; simp⟩
  | true => exact ⟨_, e1, by rw [hc rfl]; simp⟩

theorem sp_count {ls : List (List Nat)} {t : List Nat} (hl : ls.length ≤ 1000) : CallSp W 1 (.ref 112) [.list (strPV ls), .str (S t)] (.int (countL ls t : Nat)) := by
  refine callSp fnCount hW ["a", "b"] rfl (bind2 rfl fun _ _ => rfl) fun L => ?_
  show Ex W 0 _ [("a", .list (strPV ls)), ("b", .str (S t))] [] _ _ _
  refine Ex.assign (FEv.N EvTN.cint) (by simp) (.inl rfl) (by walk_at "mine up") ?_
  refine Ex.for (FI.V (EvI.list (by walk_at "mine ev"))) (fun i Γ' O' => Γ' = ([("a", .list (strPV ls)), ("b", .str (S t)), ("count", .int (countL (ls.take i) t : Nat))] : Ctx) ∧ O' = []) ⟨rfl, rfl⟩ (.inl rfl) (fun i y Γ' O' hy hI => ?_) fun Γ' O' hI => ?_
  · obtain ⟨rfl, rfl⟩ := hI
    have hi : i < ls.length := by
      rcases Nat.lt_or_ge i ls.length with h | h
      · exact h
      · rw [List.getElem?_eq_none (by rw [strPV_length]; exact h)] at hy; cases hy
    have hy' : y = .str (S ls[i]) := by
      simp [strPV, strEmb, hi] at hy; exact hy.symm
    subst hy'
    refine ⟨by simp, _, by walk_at "mine up", ?_⟩
    have next : countL (ls.take (i + 1)) t = countL (ls.take i) t + (if S ls[i] == S t then 1 else 0) := by
      unfold countL
      rw [List.take_add_one, List.filter_append, List.length_append]
      congr 1
      rw [List.getElem?_eq_getElem hi]
      by_cases h : ls[i] = t
      · simp [h]
      · have : S ls[i] ≠ S t := fun q => h (S_inj.mp q)
        simp [h, this]
    refine Ex.iff (N₁ := fun Γ' O' => O' = [] ∧ Γ' = ([("a", .list (strPV ls)), ("b", .str (S t)), ("count", .int (countL (ls.take (i + 1)) t : Nat)), ("i", .str (S ls[i]))] : Ctx)) (ev_isOrEq hW (by walk_at "mine ev") (by walk_at "mine ev") (by walk_at "mine ev") (by walk_at "mine ev") rfl rfl) (fun h => ?_) (fun h => ?_) fun Γ' O' hN => ?_
    · rw [h, if_pos rfl] at next
      refine Ex.aug rfl EvTN.cint Op2.iadd (by simp) (.inl rfl) (by walk_at "mine up") (Ex.nil ⟨rfl, ?_⟩)
      rw [next]; rfl
    · rw [h] at next
      exact Ex.nil ⟨rfl, by rw [next]; rfl⟩
    · obtain ⟨rfl, rfl⟩ := hN
      exact Ex.done (by repeat' (first | exact Ctx.Le.nil | refine Ctx.Le.cons rfl ?_)) (fun x hx => by cases hx) ⟨rfl, rfl⟩
  · obtain ⟨rfl, rfl⟩ := hI
    refine Ex.ret (by walk_at "mine ev") ?_
    rw [strPV_length, List.take_length]
end

theorem digs_dval {n : Nat} : ∀ {ds : List Nat}, (∀ d ∈ ds, d < 2 ^ n) → digs n ds.length (dval n ds) = ds
  | [], _ => rfl
  | d :: ds, h => by
    have hd := h d (.head _)
    have ih := digs_dval (ds := ds) fun x hx => h x (.tail _ hx)
    show (d + 2 ^ n * dval n ds) % 2 ^ n :: digs n ds.length ((d + 2 ^ n * dval n ds) / 2 ^ n) = _
    rw [Nat.add_mul_mod_self_left, Nat.mod_eq_of_lt hd, Nat.add_mul_div_left _ _ (Nat.two_pow_pos n), Nat.div_eq_of_lt hd, Nat.zero_add, ih]
theorem dval_below {n : Nat} : ∀ {ds : List Nat}, (∀ d ∈ ds, d < 2 ^ n) → dval n ds < 2 ^ (n * ds.length)
  | [], _ => by simp [dval]
  | d :: ds, h => by
    have hd := h d (.head _)
    have ih := dval_below (ds := ds) fun x hx => h x (.tail _ hx)
    have e : 2 ^ (n * (d :: ds).length) = 2 ^ n * 2 ^ (n * ds.length) := by rw [List.length_cons, Nat.mul_succ, Nat.add_comm, Nat.pow_add]
    rw [e]
    show d + 2 ^ n * dval n ds < _
    have : 2 ^ n * (dval n ds + 1) ≤ 2 ^ n * 2 ^ (n * ds.length) := Nat.mul_le_mul_left _ ih
    rw [Nat.mul_add, Nat.mul_one] at this
    omega
theorem dval_ge {n : Nat} : ∀ {ds : List Nat}, (∀ d ∈ ds, 1 ≤ d) → ∀ {k : Nat}, ds.length = k + 1 → 2 ^ (n * k) ≤ dval n ds
  | [], _, k, hk => by simp at hk
  | [d], h, k, hk => by
    have hd := h d (.head _)
    have : k = 0 := by simpa using hk.symm
    subst this
    simp [dval]; omega
  | d :: d' :: ds, h, k, hk => by
    obtain ⟨j, rfl⟩ : ∃ j, k = j + 1 := ⟨ds.length, by simp at hk; omega⟩
    have ih := dval_ge (n := n) (ds := d' :: ds) (fun x hx => h x (.tail _ hx)) (k := j) (by simp at hk ⊢; omega)
    show _ ≤ d + 2 ^ n * dval n (d' :: ds)
    have e : 2 ^ (n * (j + 1)) = 2 ^ n * 2 ^ (n * j) := by rw [Nat.mul_succ, Nat.add_comm, Nat.pow_add]
    rw [e]
    have := Nat.mul_le_mul_left (2 ^ n) ih
    omega
/-- the digits' number -/
noncomputable def nOf (a : Nat) : Nat := (Builtin.Int.intBits (a : Int) + 7 - 1) / 7
theorem nOf_dval {ds : List Nat} (h : ∀ d ∈ ds, 33 ≤ d ∧ d ≤ 126) : nOf (dval 7 ds) = ds.length := by
  have hlt : dval 7 ds < 2 ^ (7 * ds.length) := dval_below fun d hd => Nat.lt_of_le_of_lt (h d hd).2 (by decide)
  have h1 := bits_nat_le_iff.mpr hlt
  unfold nOf
  cases hk : ds.length with
  | zero => rw [hk] at h1; omega
  | succ k =>
    have h2 := dval_ge (n := 7) (fun d hd => Nat.le_trans (show 1 ≤ 33 by omega) (h d hd).1) hk
    have h3 : ¬ Builtin.Int.intBits (dval 7 ds : Nat) ≤ 7 * k := fun q => by have := bits_nat_le_iff.mp q; omega
    rw [hk] at h1
    omega

noncomputable def addRow (c : Nat) (st : List (List Nat)) (row : List Nat) : List (List Nat) := if (st.map (dval 7)).contains (dval 7 (row ++ [c])) then st else st ++ [row ++ [c]]
noncomputable def addCode (st : List (List Nat)) (c : Nat) : List (List Nat) := st.foldl (addRow c) st
noncomputable def rowsOf (codes : List Nat) : List (List Nat) := codes.foldl addCode [[]]
noncomputable def partsOf (codes : List Nat) : List (List Nat) := [4, 3, 2, 1, 0].flatMap fun s => (rowsOf codes).filter fun r => r.length == s
structure RowsOk (n i : Nat) (st : List (List Nat)) : Prop where
  len : st.length ≤ n
  row : ∀ r ∈ st, r.length ≤ i ∧ ∀ d ∈ r, 33 ≤ d ∧ d ≤ 126
theorem RowsOk.up {n i n' i' : Nat} {st : List (List Nat)} (h : RowsOk n i st) (hn : n ≤ n') (hi : i ≤ i') : RowsOk n' i' st := ⟨Nat.le_trans h.len hn, fun r hr => ⟨Nat.le_trans (h.row r hr).1 hi, (h.row r hr).2⟩⟩
theorem RowsOk.add {n i c : Nat} {st : List (List Nat)} {row : List Nat} (h : RowsOk n (i + 1) st) (hc : 33 ≤ c ∧ c ≤ 126) (hr : row.length ≤ i ∧ ∀ d ∈ row, 33 ≤ d ∧ d ≤ 126) : RowsOk (n + 1) (i + 1) (addRow c st row) := by
  unfold addRow
  split
  · exact h.up (Nat.le_succ _) (Nat.le_refl _)
  · refine ⟨by rw [List.length_append]; exact Nat.succ_le_succ h.len, fun r hm => ?_⟩
    rcases List.mem_append.mp hm with q | q
    · exact h.row r q
    · simp only [List.mem_singleton] at q
      subst q
      refine ⟨by simp; exact hr.1, fun d hd => ?_⟩
      rcases List.mem_append.mp hd with q | q
      · exact hr.2 d q
      · simp only [List.mem_singleton] at q; subst q; exact hc
theorem RowsOk.fold {i c : Nat} (hc : 33 ≤ c ∧ c ≤ 126) : ∀ {rs st : List (List Nat)} {n : Nat}, RowsOk n (i + 1) st → (∀ r ∈ rs, r.length ≤ i ∧ ∀ d ∈ r, 33 ≤ d ∧ d ≤ 126) → RowsOk (n + rs.length) (i + 1) (rs.foldl (addRow c) st)
  | [], st, n, h, _ => h
  | r :: rs, st, n, h, hr => by
    have := RowsOk.fold hc (rs := rs) (h.add hc (hr r (.head _))) fun x hx => hr x (.tail _ hx)
    exact this.up (by simp; omega) (Nat.le_refl _)
theorem RowsOk.code {i c n : Nat} (hc : 33 ≤ c ∧ c ≤ 126) {st : List (List Nat)} (h : RowsOk n i st) : RowsOk (2 * n) (i + 1) (addCode st c) := by
  have := RowsOk.fold hc (h.up (Nat.le_refl _) (Nat.le_succ _)) h.row
  exact this.up (by have := h.len; omega) (Nat.le_refl _)
theorem RowsOk.rows {codes : List Nat} : ∀ {i n : Nat} {st : List (List Nat)}, (∀ c ∈ codes, 33 ≤ c ∧ c ≤ 126) → RowsOk n i st → RowsOk (2 ^ codes.length * n) (i + codes.length) (codes.foldl addCode st) := by
  induction codes with
  | nil => intro i n st _ h; simpa using h
  | cons c cs ih =>
    intro i n st hc h
    have := ih (fun x hx => hc x (.tail _ hx)) (h.code (hc c (.head _)))
    exact this.up (by rw [List.length_cons, Nat.pow_succ, Nat.mul_assoc]; exact Nat.le_refl _) (by simp; omega)
theorem rowsOk_start : RowsOk 1 0 [[]] := ⟨Nat.le_refl _, fun r hr => by simp only [List.mem_singleton] at hr; subst hr; exact ⟨Nat.le_refl _, fun d hd => by cases hd⟩⟩
noncomputable def rowsPV (rs : List (List Nat)) : List PV := rs.map fun r => PV.list (natPV r)
theorem rowsPV_length (rs : List (List Nat)) : (rowsPV rs).length = rs.length := by simp [rowsPV]
theorem contains_cast (ks : List Nat) (k : Nat) : (ks.map fun (d : Nat) => (d : Int)).any (· == (k : Int)) = ks.contains k := by
  rw [List.any_map, List.contains_eq_any_beq]
  congr 1
  funext x
  simp only [Function.comp]
  rw [Bool.eq_iff_iff]; simp; omega

section
variable {W : Wd} (hW : WOk W) (hT : TOk W)
include hW hT

omit hT in
theorem sp_concatN {a b : List Nat} (hl : a.length + b.length ≤ 1000) : CallSp W 1 (.ref 98) [.list (natPV a), .list (natPV b)] (.list (natPV (a ++ b))) := by
  have := sp_concat hW (a := a.map fun (d : Nat) => (d : Int)) (b := b.map fun (d : Nat) => (d : Int)) (by simpa using hl)
  rw [← List.map_append] at this
  rw [natPV_ints, natPV_ints, natPV_ints]; exact this
omit hT in
theorem sp_containsN {ks : List Nat} {k : Nat} : CallSp W 1 (.ref 105) [.list (natPV ks), .int (k : Int)] (.bool (ks.contains k)) := by
  have := sp_contains hW (ks.map fun (d : Nat) => (d : Int)) (k : Int)
  rw [contains_cast, ← natPV_ints] at this
  exact this

theorem sp_parts {codes : List Nat} (hc : ∀ c ∈ codes, 33 ≤ c ∧ c ≤ 126) (h4 : codes.length = 4) : CallSp W 6 (.ref 136) [.list (natPV codes)] (.list (strPV (partsOf codes))) := by
  refine callSp fnParts hW ["codes"] rfl (bind1 rfl fun _ => rfl) fun L => ?_
  show Ex W 5 _ [("codes", .list (natPV codes))] [] _ _ _
  refine Ex.assignOwn (xs := rowsPV [[]]) (FOwn.disp (EvLN.cons (EvTN.list EvLN.nil (by rw [natPV_length]; simp [sizeLine])) EvLN.nil rfl) (by rw [rowsPV_length]; simp [sizeLine])) (by decide) (.inl rfl) (by walk_at "mine up") ?_
  refine Ex.assignOwn (xs := natPV [0]) (FOwn.disp (EvLN.cons EvTN.cint EvLN.nil rfl) (by simp [natPV, sizeLine])) (by decide) (.inl rfl) (by walk_at "mine up") ?_
  refine Ex.for (FI.V (EvI.list (by walk_at "mine ev"))) (fun i Γ' O' => ∃ st, Γ' = ([("codes", .list (natPV codes)), ("rows", .list (rowsPV st)), ("names", .list (natPV (st.map (dval 7))))] : Ctx) ∧ O' = (["names", "rows"] : List PySem.Str) ∧ st = (codes.take i).foldl addCode [[]] ∧ RowsOk (2 ^ i) i st) ⟨[[]], rfl, rfl, rfl, rowsOk_start⟩ (.inl rfl) (fun i y Γ' O' hy hI => ?_) fun Γ' O' hI => ?_
  · obtain ⟨st, rfl, rfl, hst, hok⟩ := hI
    have hi : i < codes.length := by
      rcases Nat.lt_or_ge i codes.length with h | h
      · exact h
      · rw [List.getElem?_eq_none (by rw [natPV_length]; exact h)] at hy; cases hy
    obtain ⟨c, hcode⟩ : ∃ c, codes[i]? = some c := ⟨_, List.getElem?_eq_getElem hi⟩
    have hcc := hc c (List.mem_of_getElem? hcode)
    have hy' : y = .int (c : Nat) := by rw [natPV_get, hcode] at hy; exact (Option.some.inj hy).symm
    subst hy'
    have hstl : st.length ≤ 16 := by
      have := hok.len
      have : 2 ^ i ≤ 2 ^ 4 := Nat.pow_le_pow_right (by omega) (by omega)
      omega
    refine ⟨by decide, _, by walk_at "mine up", ?_⟩
    refine Ex.for (FI.copy (xs := rowsPV st) (by simp) rfl (by walk_at "mine fn") (by rw [rowsPV_length]; simp [sizeLine]; omega)) (fun j Γ' O' => ∃ st', Γ' = ([("codes", .list (natPV codes)), ("rows", .list (rowsPV st')), ("names", .list (natPV (st'.map (dval 7)))), ("code", .int (c : Nat))] : Ctx) ∧ O' = (["names", "rows"] : List PySem.Str) ∧ st' = (st.take j).foldl (addRow c) st ∧ RowsOk (16 + j) (i + 1) st') ⟨st, rfl, rfl, rfl, hok.up (by have := hok.len; have : 2 ^ i ≤ 2 ^ 4 := Nat.pow_le_pow_right (by omega) (by omega); omega) (Nat.le_succ _)⟩ (.inl rfl) (fun j y Γ' O' hy hI => ?_) fun Γ' O' hI => ?_
    · obtain ⟨st', rfl, rfl, hst', hok'⟩ := hI
      have hj : j < st.length := by
        rcases Nat.lt_or_ge j st.length with h | h
        · exact h
        · rw [List.getElem?_eq_none (by rw [rowsPV_length]; exact h)] at hy; cases hy
      obtain ⟨r, hr⟩ : ∃ r, st[j]? = some r := ⟨_, List.getElem?_eq_getElem hj⟩
      have hrow := hok.row r (List.mem_of_getElem? hr)
      have hy' : y = .list (natPV r) := by rw [rowsPV, List.getElem?_map, hr] at hy; exact (Option.some.inj hy).symm
      subst hy'
      have hrl : r.length ≤ 3 := by omega
      have hsl : st'.length ≤ 32 := by have := hok'.len; omega
      refine ⟨by decide, _, by walk_at "mine up", ?_⟩
      have s1 := (sp_concatN hW (a := r) (b := [c]) (by simp; omega)).up (show 1 ≤ 5 by omega)
      refine Ex.assign (pv := .list (natPV (r ++ [c]))) (FEv.N (EvTN.call (by walk_at "mine fn") (by exact (fnConcat.ok hW).callee) (EvL.cons (by walk_at "mine ev") (EvL.cons (EvTN.ev (EvTN.list (xs := natPV [c]) (EvLN.cons (by walk_at "mine ev") EvLN.nil rfl) (by simp [natPV, sizeLine]))) EvL.nil rfl) rfl) rfl rfl s1)) (by decide) (.inl rfl) (by walk_at "mine up") ?_
      have hdig : ∀ d ∈ r ++ [c], 33 ≤ d ∧ d ≤ 126 := fun d hd => by
        rcases List.mem_append.mp hd with q | q
        · exact hrow.2 d q
        · simp only [List.mem_singleton] at q; subst q; exact hcc
      have s2 := (sp_d2i hW hT (ds := r ++ [c]) (n := 7) (m := 7) (fun d hd => by have := hdig d hd; omega) (by omega) (by omega) (by simp; omega)).up (show (r ++ [c]).length + 1 ≤ 5 by simp; omega)
      refine Ex.assign (pv := .int (dval 7 (r ++ [c]) : Nat)) (FEv.N (EvTN.call (by walk_at "mine fn") (by exact (fnD2i.ok hW).callee) (EvL.cons (by walk_at "mine ev") (EvL.cons (EvTN.ev EvTN.cint) EvL.nil rfl) rfl) rfl rfl s2)) (by decide) (.inl rfl) (by walk_at "mine up") ?_
      have s3 := (sp_containsN hW (ks := st'.map (dval 7)) (k := dval 7 (r ++ [c]))).up (show 1 ≤ 5 by omega)
      have next : (st.take (j + 1)).foldl (addRow c) st = addRow c st' r := by rw [List.take_add_one, hr, List.foldl_append, ← hst']; rfl
      have hadd : RowsOk (16 + (j + 1)) (i + 1) (addRow c st' r) := hok'.add hcc hrow
      refine Ex.iff (N₁ := fun Γ' O' => O' = (["names", "rows"] : List PySem.Str) ∧ Γ' = ([("codes", .list (natPV codes)), ("rows", .list (rowsPV (addRow c st' r))), ("names", .list (natPV ((addRow c st' r).map (dval 7)))), ("code", .int (c : Nat)), ("row", .list (natPV r)), ("longer", .list (natPV (r ++ [c]))), ("name", .int (dval 7 (r ++ [c]) : Nat))] : Ctx))
        (EvB.not (EvB.val (EvTN.ev (EvTN.call (by walk_at "mine fn") (by exact (fnContains.ok hW).callee) (by walk_at "mine args") rfl rfl s3)) Truth.bool (fun _ => rfl))) (fun h => ?_) (fun h => ?_) fun Γ' O' hN => ?_
      · have e : addRow c st' r = st' ++ [r ++ [c]] := by
          unfold addRow
          rw [if_neg]; intro q; rw [q] at h; cases h
        refine Ex.append (pv := .list (natPV (r ++ [c]))) (by simp) rfl (FEv.V (by walk_at "mine ev")) (by rw [rowsPV_length]; omega) (by walk_at "mine up") ?_
        refine Ex.append (pv := .int (dval 7 (r ++ [c]) : Nat)) (by simp) rfl (FEv.N (by walk_at "mine ev")) (by rw [natPV_length]; simp; omega) (by walk_at "mine up") ?_
        refine Ex.nil ⟨rfl, ?_⟩
        rw [e, show rowsPV (st' ++ [r ++ [c]]) = rowsPV st' ++ [.list (natPV (r ++ [c]))] from List.map_append, List.map_append, natPV_append (st'.map (dval 7))]; rfl
      · have e : addRow c st' r = st' := by
          unfold addRow
          rw [if_pos]; cases q : (st'.map (dval 7)).contains (dval 7 (r ++ [c])) with
          | true => rfl
          | false => rw [q] at h; cases h
        exact Ex.nil ⟨rfl, by rw [e]; rfl⟩
      · obtain ⟨rfl, rfl⟩ := hN
        exact Ex.done (by repeat' (first | exact Ctx.Le.nil | refine Ctx.Le.cons rfl ?_)) (fun x hx => by simp only [List.mem_cons, List.not_mem_nil, or_false] at hx; rcases hx with rfl | rfl <;> rfl) ⟨_, rfl, rfl, next.symm, hadd⟩
    · obtain ⟨st', rfl, rfl, hst', hok'⟩ := hI
      rw [rowsPV_length, List.take_length] at hst'
      have e : (codes.take (i + 1)).foldl addCode [[]] = st' := by rw [List.take_add_one, hcode, List.foldl_append, ← hst, hst']; rfl
      refine Ex.done (by repeat' (first | exact Ctx.Le.nil | refine Ctx.Le.cons rfl ?_)) (fun x hx => by simp only [List.mem_cons, List.not_mem_nil, or_false] at hx; rcases hx with rfl | rfl <;> rfl) ⟨_, rfl, rfl, e.symm, ?_⟩
      rw [hst']
      have := hok.code hcc
      rw [Nat.pow_succ, Nat.mul_comm]
      exact this
  · obtain ⟨st, rfl, rfl, hst, hok⟩ := hI
    rw [natPV_length, List.take_length] at hst
    rw [natPV_length, h4] at hok
    have hst' : st = rowsOf codes := hst
    have hlen : st.length ≤ 16 := by have := hok.len; omega
    have key : ∀ k ∈ st.map (dval 7), ∃ r ∈ st, k = dval 7 r ∧ nOf k = r.length ∧ digs 7 (nOf k) k = r := fun k hk => by
      obtain ⟨r, hr, rfl⟩ := List.mem_map.mp hk
      have hd := (hok.row r hr).2
      have e := nOf_dval hd
      exact ⟨r, hr, rfl, e, by rw [e]; exact digs_dval fun d hd' => by have := hd d hd'; omega⟩
    have tx : (st.map (dval 7)).map (fun k => strEmb (digs 7 (nOf k) k)) = strPV st := by
      rw [List.map_map, strPV]
      apply List.map_congr_left
      intro r hr
      have e := nOf_dval (hok.row r hr).2
      show strEmb (digs 7 (nOf (dval 7 r)) (dval 7 r)) = _
      rw [e, digs_dval fun d hd' => by have := (hok.row r hr).2 d hd'; omega]
    refine Ex.assign (pv := .list (strPV st)) (FEv.N (EvTN.eq (EvTN.compN (ks := st.map (dval 7)) (p := fun _ => true) (f := fun k => strEmb (digs 7 (nOf k) k)) rfl (EvI.list (by walk_at "mine ev")) (by simp; omega) (fun C cl hcl k hk => EvTests.nil) (fun C cl hcl k hk _ => ?_) (fun k _ _ => rfl)) (by rw [filter_all, tx]))) (by decide) (.inr rfl) (by walk_at "mine up") ?_
    · obtain ⟨r, hr, hkr, hn, hdg⟩ := key k hk
      have hrl := (hok.row r hr).1
      have s1 := (sp_i2d hW hT (a := k) (n := 7) (N := nOf k) (by omega) (by omega) rfl (by omega)).up (show nOf k + 1 ≤ 5 by omega)
      rw [hdg] at s1 ⊢
      have hfl : (r.map fun d => [d]).flatten = r := by rw [flat1]; simp
      refine EvTN.ev (EvTN.eq (ev_join hW (ls := r.map fun d => [d]) (EvTN.ev (EvTN.eq (EvTN.compN (ks := r) (p := fun _ => true) (f := fun d => strEmb [d]) rfl (EvI.list (EvTN.ev (EvTN.call (by walk_at "mine fn") (by exact (fnI2d.ok hW).callee) (EvL.cons (by walk_at "mine ev") (EvL.cons (EvTN.ev EvTN.cint) EvL.nil rfl) rfl) rfl rfl s1))) (by omega) (fun C cl hcl k hk => EvTests.nil) (fun C cl hcl d hd _ => ?_) (fun k _ _ => rfl)) (by rw [filter_all, strPV, List.map_map]; rfl))) (by rw [sum1]; omega)) (by rw [hfl]; rfl))
      have hdd := (hok.row r hr).2 d hd
      have s2 : CallSp W 5 (.builtin "chr") [.int (d : Int)] (.str ⟨#[((d : Nat) : Int).toNat]⟩) := CallSp.chr (by omega) (by omega)
      exact EvTN.ev (EvTN.eq (EvTN.call (by walk_at "mine fn") (.inl ⟨_, rfl⟩) (by walk_at "mine args") rfl rfl s2) rfl)
    refine Ex.ret (EvTN.eq (EvTN.twoFor (xs := rangeL 4 (-1) 5) (zs := strPV st) (p := fun y u => ((strInv u).length : Int) == intInv y) (f := fun y u => u) rfl (EvI.range (by walk_at "mine fn") (EvL.cons (EvTN.ev EvTN.cint) (EvL.cons (EvTN.ev (EvTN.unop (EvTN.ev EvTN.cint) Op1.neg)) (EvL.cons (EvTN.ev (EvTN.unop (EvTN.ev EvTN.cint) Op1.neg)) EvL.nil rfl) rfl) rfl) rfl rfl (RangeCall.three (by decide) (by decide)) (by decide) (by decide)) ?_ (strPV_imm _) ?_ (fun C cl hcl y hy => EvI.list (by walk_at "mine ev")) (fun C cl hcl y hy u hu => EvTests.one ?_) (fun C cl hcl y hy u hu _ => ?_) (fun y hy u hu _ => strPV_imm _ u hu)) ?_) rfl
    · intro y hy
      rw [rangeL_int] at hy
      exact intPV_imm _ y hy
    · rw [strPV_length, rangeL_length]; simp [sizeLine]; omega
    · obtain ⟨r, hr, rfl⟩ := List.mem_map.mp hu
      rw [rangeL_int] at hy
      obtain ⟨k, hk, rfl⟩ := List.mem_map.mp hy
      have hrl := (hok.row r hr).1
      exact EvB.cmp (EvTN.ev (EvTN.call (by walk_at "mine fn") (.inl ⟨_, rfl⟩) (EvL.cons (by walk_at "mine ev") EvL.nil rfl) rfl rfl (CallSp.lenS (l := r) (by omega)))) (by walk_at "mine ev") Op2.eqi rfl
    · obtain ⟨r, hr, rfl⟩ := List.mem_map.mp hu
      rw [rangeL_int] at hy
      obtain ⟨k, hk, rfl⟩ := List.mem_map.mp hy
      exact EvTN.ev (by walk_at "mine ev")
    · have e : rangeL 4 (-1) 5 = intPV [4, 3, 2, 1, 0] := by rfl
      have one : ∀ k : Nat, ((strPV st).filter fun u => ((strInv u).length : Int) == intInv (.int (k : Int))).map (fun u => u) = strPV (st.filter fun r => r.length == k) := fun k => by
        rw [List.map_id', strPV, List.filter_map]
        congr 1
        apply List.filter_congr
        intro r _
        show (((S r).cps.toList.length : Int) == (k : Int)) = (r.length == k)
        rw [Bool.eq_iff_iff, beq_iff_eq, beq_iff_eq]
        simp [S]; omega
      rw [e, partsOf, ← hst']
      simp only [intPV, List.map_cons, List.map_nil, List.flatMap_cons, List.flatMap_nil]
      have cat : ∀ a b, strPV (a ++ b) = strPV a ++ strPV b := fun a b => by simp [strPV]
      rw [cat, cat, cat, cat, cat]
      rw [← one 4, ← one 3, ← one 2, ← one 1, ← one 0]
      rfl
end

noncomputable def fnLaw : FnAt 160 := ⟨_, _, fun P => ⟨_, rfl, rfl⟩, rfl, fun P => rfl, rfl, rfl, rfl, rfl, rfl, rfl⟩
noncomputable abbrev lawEnv (L a : Addr) (cd : Value) : Env := envOfC "law" fnLaw.fd.scope L a cd

noncomputable def wAt (b : Int) (r t : Nat) : Int := b ^ r * (b - 1) ^ (4 - r - t)
noncomputable def restOf (b : Int) : Int := if b > 0 then 1 else b

theorem law_fin {b : Int} (hb : 3 ≤ b ∨ b ≤ -1) {r : Nat} (hr : r ≤ 3) : restOf b ≠ 0 ∧ (b ^ r).fmod (b - 1) = restOf b ∧ (b ^ r - restOf b).fdiv (b - 1) = (b ^ r).fdiv (b - 1) := by
  have hq : ∃ q, 1 + (b - 1) * q = b ^ r := by
    rcases r with _ | _ | _ | _ | r
    · exact ⟨0, by simp⟩
    · exact ⟨1, by rw [show (0 + 1 : Nat) = 1 from rfl, Int.pow_one]; omega⟩
    · exact ⟨b + 1, by grind⟩
    · exact ⟨b * b + b + 1, by grind⟩
    · omega
  obtain ⟨q, hq⟩ := hq
  unfold restOf
  rcases hb with h | h
  · have hc : 0 < b - 1 := by omega
    rw [if_pos (by omega)]
    have h1 := (Int.fdiv_fmod_unique (a := b ^ r) (r := 1) (q := q) hc).mpr ⟨hq, by omega, by omega⟩
    refine ⟨by omega, h1.2, ?_⟩
    rw [h1.1, ← hq, show 1 + (b - 1) * q - 1 = (b - 1) * q by omega]
    exact Int.mul_fdiv_cancel_left _ (by omega)
  · have hc : b - 1 < 0 := by omega
    rw [if_neg (by omega)]
    have hq2 : b + (b - 1) * (q - 1) = b ^ r := by rw [← hq, Int.mul_sub]; omega
    have h1 := (Int.fdiv_fmod_unique' (a := b ^ r) (r := b) (q := q - 1) hc).mpr ⟨hq2, by omega, by omega⟩
    refine ⟨by omega, h1.2, ?_⟩
    rw [h1.1, ← hq2, show b + (b - 1) * (q - 1) - b = (b - 1) * (q - 1) by omega]
    exact Int.mul_fdiv_cancel_left _ (by omega)
theorem wAt_step {b : Int} (hb : 3 ≤ b ∨ b ≤ -1) {r t : Nat} (ht : t < 4 - r) : (wAt b r t).fdiv (b - 1) = wAt b r (t + 1) ∧ (wAt b r t).fmod (b - 1) = 0 := by
  have e : wAt b r t = (b - 1) * wAt b r (t + 1) := by
    unfold wAt
    rw [show 4 - r - t = (4 - r - (t + 1)) + 1 by omega, Int.pow_succ, ← Int.mul_assoc, Int.mul_comm]
  rw [e]
  exact ⟨Int.mul_fdiv_cancel_left _ (by omega), Int.mul_fmod_right ..⟩
theorem wAt_end {b : Int} {r : Nat} : wAt b r (4 - r) = b ^ r := by simp [wAt]
theorem natAbs_pow_le {b : Int} {m : Nat} (h : b.natAbs ≤ m) : ∀ r : Nat, (b ^ r).natAbs ≤ m ^ r := fun r => by
  rw [Int.natAbs_pow]; exact Nat.pow_le_pow_left h r
theorem wAt_bits {b : Int} (hb : 3 ≤ b ∨ b ≤ -1) {r t : Nat} (hr : r ≤ 3) : Builtin.Int.intBits (wAt b r t) ≤ 63 * Builtin.Int.intBits (b - 1) := by
  obtain ⟨m, hm⟩ : ∃ m, m = Builtin.Int.intBits (b - 1) := ⟨_, rfl⟩
  have h1 : (b - 1).natAbs < 2 ^ m := intBits_le_iff.mp (Nat.le_of_eq hm.symm)
  have hm1 : 1 ≤ m := by
    rcases Nat.eq_zero_or_pos m with h | h
    · subst h; rw [Nat.pow_zero] at h1; omega
    · exact h
  have h2 : b.natAbs ≤ 2 ^ m := by omega
  rw [← hm]
  refine intBits_le_iff.mpr ?_
  have h3 : (wAt b r t).natAbs ≤ (2 ^ m) ^ r * (2 ^ m) ^ (4 - r - t) := by
    unfold wAt
    rw [Int.natAbs_mul]
    exact Nat.mul_le_mul (natAbs_pow_le h2 r) (natAbs_pow_le (Nat.le_of_lt h1) _)
  rw [← Nat.pow_add, ← Nat.pow_mul] at h3
  refine Nat.lt_of_le_of_lt h3 (Nat.pow_lt_pow_right (by omega) ?_)
  have : m * (r + (4 - r - t)) ≤ m * 4 := Nat.mul_le_mul_left _ (by omega)
  omega
theorem baseOf_ok (h : Int) : (3 ≤ baseOf h ∨ baseOf h ≤ -1) ∧ (baseOf h).natAbs < 2 ^ 5000 := by
  obtain ⟨P, hP⟩ : ∃ P : Nat, P = 2 ^ 4500 := ⟨_, rfl⟩
  have hPi : (1 : Int) * 2 ^ ((4500 : Int)).toNat = (P : Int) := by
    rw [Int.one_mul, hP, show ((4500 : Int)).toNat = 4500 from rfl, Int.natCast_pow]; rfl
  have hP0 : 0 < P := by rw [hP]; exact Nat.two_pow_pos _
  have hP5 : P * 4 < 2 ^ 5000 := by
    rw [hP, show (4 : Nat) = 2 ^ 2 from rfl, ← Nat.pow_add]
    exact Nat.pow_lt_pow_right (by omega) (by omega)
  unfold baseOf
  rw [hPi]
  split
  · have h1 := Int.fmod_nonneg_of_pos h (show (0 : Int) < P by omega)
    have h2 := Int.fmod_lt_of_pos h (show (0 : Int) < P by omega)
    omega
  · have h1 := Int.fmod_nonneg_of_pos (-h) (show (0 : Int) < P by omega)
    have h2 := Int.fmod_lt_of_pos (-h) (show (0 : Int) < P by omega)
    omega

noncomputable def wholeOf (ts : List (List Nat)) (nums : List Int) (b : Int) : Nat → Int
  | 0 => 0
  | k + 1 => wholeOf ts nums b k + nums.getD k 0 * b ^ (ts.getD k []).length

section
variable {W : Wd} (hW : WOk W) (hT : TOk W)
include hW hT

theorem law_b {H : List Int} {ts : List (List Nat)} {nums : List Int} {lk : List Nat} {L a : Addr} {cd : Value} (hH : H.length = 8) (hn : nums.length = ts.length) (h20 : ts.length ≤ 20) (h4 : ∀ t ∈ ts, t.length ≤ 4)
    (hlk : lk.length ≤ 3) (hbits : ∀ n ∈ nums, Builtin.Int.intBits n ≤ 64) (hwhole : ∀ b, wholeOf ts nums b ts.length = b ^ lk.length * (b - 1) ^ (4 - lk.length)) :
    Ex W 74 (lawEnv L a cd) [("heaps", .list (intPV H)), ("texts", .list (strPV ts)), ("numbers", .list (intPV nums)), ("like", .list (natPV lk))] [] (fnLaw.body.drop 14) (fun _ _ => False) (· = .bool true) := by
  have hh : 7 < H.length := by omega
  obtain ⟨hb, hb5⟩ := baseOf_ok H[7]
  have s1 := (sp_base hW H[7]).up (show 1 ≤ 74 by omega)
  refine Ex.assign (pv := .int (baseOf H[7])) (FEv.N (EvTN.call (by walk_at "mine fn") (by exact (fnBase.ok hW).callee) (EvL.cons (EvT.item (k := 7) (r := .int H[7]) (by walk_at "mine ev") (EvTN.ev EvTN.cint) (by omega) (by omega) (intPV_get hh) (fun _ _ => rfl)) EvL.nil rfl) rfl rfl s1)) (by simp) (.inl rfl) (by walk_at "mine up") ?_
  generalize baseOf H[7] = b at hb hb5 ⊢
  have hw := hwhole b
  have hb8 : (b - 1).natAbs < 2 ^ 8000 := by
    have h1 : (2 : Nat) ^ 5000 < 2 ^ 8000 := Nat.pow_lt_pow_right (by omega) (by omega)
    omega
  have hbb : Builtin.Int.intBits b ≤ 5000 := intBits_le_iff.mpr hb5
  refine Ex.assign (FEv.N EvTN.cint) (by simp) (.inl rfl) (by walk_at "mine up") ?_
  have lenT : ∀ (σ : Loc) (p1 p2 p3 : Pos), σ "texts" = some (.list (strPV ts)) → EvN W 74 (lawEnv L a cd) σ (.Call (.Name "len" p1) [.Name "texts" p2] [] p3) (.int (ts.length : Nat)) := fun σ p1 p2 p3 h => by
    have e := EvTN.call (W := W) (d := 74) (env := lawEnv L a cd) (σ := σ) (pos := p3) (p := p1) (f := "len") (e := .Name "texts" p2) (rest := []) (gnb hW rfl (fun P => rfl) rfl (by decide)) (.inl ⟨_, rfl⟩) (EvL.cons (EvT.name h rfl rfl) EvL.nil rfl) rfl rfl (CallSp.lenN (by rw [strPV_length]; omega))
    rw [strPV_length] at e
    exact e
  refine Ex.for (FI.V (EvI.rng1 (n := ts.length) (by walk_at "mine fn") (EvL.cons (EvTN.ev (lenT _ _ _ _ rfl)) EvL.nil rfl) (by omega))) (fun i Γ' O' => Γ' = ([("heaps", .list (intPV H)), ("texts", .list (strPV ts)), ("numbers", .list (intPV nums)), ("like", .list (natPV lk)), ("base", .int b), ("whole", .int (wholeOf ts nums b i))] : Ctx) ∧ O' = ([] : List PySem.Str)) ⟨rfl, rfl⟩ (.inl rfl) (fun i y Γ' O' hy hI => ?_) fun Γ' O' hI => ?_
  · obtain ⟨rfl, rfl⟩ := hI
    have hi : i < ts.length := by
      rcases Nat.lt_or_ge i ts.length with h | h
      · exact h
      · rw [List.getElem?_eq_none (by simpa using h)] at hy; cases hy
    have hy' : y = .int (i : Nat) := by simp [hi] at hy; exact hy.symm
    subst hy'
    have hin : i < nums.length := by omega
    refine ⟨by simp, _, by walk_at "mine up", ?_⟩
    have ht4 := h4 _ (List.getElem_mem hi)
    have s2 := (sp_pow hW b (ts[i].length : Nat) (by omega) (by
      have : (Builtin.Int.intBits b : Int) * (ts[i].length : Nat) ≤ (5000 : Int) * 4 := by
        exact_mod_cast Nat.mul_le_mul hbb ht4
      omega)).up (show 1 ≤ 74 by omega)
    have s3 := (sp_mul hW nums[i] (b ^ ((ts[i].length : Nat) : Int).toNat) (.of_left (hbits _ (List.getElem_mem hin)))).up (show 1 ≤ 74 by omega)
    have s4 := (sp_add hW (wholeOf ts nums b i) (nums[i] * b ^ ((ts[i].length : Nat) : Int).toNat)).up (show 1 ≤ 74 by omega)
    refine Ex.assign (FEv.N (EvTN.call (by walk_at "mine fn") (by exact (fnAdd.ok hW).callee) (EvL.cons (by walk_at "mine ev") (EvL.cons (EvTN.ev (EvTN.call (by walk_at "mine fn") (by exact (fnMul.ok hW).callee)
      (EvL.cons (EvT.item (k := (i : Int)) (r := .int nums[i]) (by walk_at "mine ev") (by walk_at "mine ev") (by omega) (by omega) (intPV_get hin) (fun _ _ => rfl)) (EvL.cons (EvTN.ev (EvTN.call (by walk_at "mine fn") (by exact (fnPow.ok hW).callee)
        (EvL.cons (by walk_at "mine ev") (EvL.cons (EvTN.ev (EvTN.call (by walk_at "mine fn") (.inl ⟨_, rfl⟩) (EvL.cons (EvT.item (k := (i : Int)) (r := .str (S ts[i])) (by walk_at "mine ev") (by walk_at "mine ev") (by omega) (by omega) (by simp [strPV, strEmb, hi]) (fun _ _ => rfl)) EvL.nil rfl) rfl rfl (CallSp.lenS (by omega)))) EvL.nil rfl) rfl) rfl rfl s2)) EvL.nil rfl) rfl) rfl rfl s3)) EvL.nil rfl) rfl) rfl rfl s4)) (by simp) (.inl rfl) (by walk_at "mine up") ?_
    have e1 : nums.getD i 0 = nums[i] := by simp [hin]
    have e2 : ts.getD i [] = ts[i] := by simp [hi]
    have e3 : wholeOf ts nums b (i + 1) = wholeOf ts nums b i + nums[i] * b ^ ((ts[i].length : Nat) : Int).toNat := by simp only [wholeOf, e1, e2, Int.toNat_natCast]
    refine Ex.done (Γ' := ([("heaps", .list (intPV H)), ("texts", .list (strPV ts)), ("numbers", .list (intPV nums)), ("like", .list (natPV lk)), ("base", .int b), ("whole", .int (wholeOf ts nums b (i + 1)))] : Ctx)) ?_ (fun x hx => by cases hx) ⟨rfl, rfl⟩
    rw [e3]
    repeat' (first | exact Ctx.Le.nil | refine Ctx.Le.cons rfl ?_)
  · obtain ⟨rfl, rfl⟩ := hI
    simp only [List.length_map, List.length_range]
    rw [hw]
    obtain ⟨r, hr⟩ : ∃ r, r = lk.length := ⟨_, rfl⟩
    rw [← hr] at hlk ⊢
    rw [show b ^ r * (b - 1) ^ (4 - r) = wAt b r 0 from rfl]
    have hc : b - 1 ≠ 0 := by omega
    have dm : ∀ t, CallSp W 74 (.ref 70) [.int (wAt b r t), .int (b - 1)] (.tup [.int ((wAt b r t).fdiv (b - 1)), .int ((wAt b r t).fmod (b - 1))]) := fun t => sp_divmod hW hT hc hb8 (wAt_bits hb hlk)
    refine Ex.assign (FEv.N EvTN.cint) (by simp) (.inl rfl) (by walk_at "mine up") ?_
    refine Ex.assign (FEv.N (EvTN.call (by walk_at "mine fn") (by exact (fnDivmod.ok hW).callee) (by walk_at "mine args") rfl rfl (dm 0))) (by simp) (.inl rfl) (by walk_at "mine up") ?_
    refine Ex.while (fun n Γ' O' => ∃ t, n + t = 4 - r ∧ Γ' = ([("heaps", .list (intPV H)), ("texts", .list (strPV ts)), ("numbers", .list (intPV nums)), ("like", .list (natPV lk)), ("base", .int b), ("whole", .int (wAt b r t)), ("turns", .int (t : Nat)), ("told", .tup [.int ((wAt b r t).fdiv (b - 1)), .int ((wAt b r t).fmod (b - 1))])] : Ctx) ∧ O' = ([] : List PySem.Str)) (4 - r) ⟨0, rfl, rfl, rfl⟩ fun n Γ' O' hI => ?_
    obtain ⟨t, hnt, rfl, rfl⟩ := hI
    have hb4 : (t : Int) < 4 ∨ ¬ (t : Int) < 4 := by omega
    refine ⟨_, EvB.and (EvB.cmp (EvT.itemTup (k := 1) (r := .int ((wAt b r t).fmod (b - 1))) (by walk_at "mine ev") (EvTN.ev EvTN.cint) (by omega) (by omega) rfl (fun _ _ => rfl)) (EvTN.ev EvTN.cint) Op2.eqi rfl) (fun _ => EvB.and (EvB.cmp (by walk_at "mine ev") (EvTN.ev EvTN.cint) Op2.lti rfl) (fun _ => EvB.and_nil)), fun hgo => ?_, fun hstop => ?_⟩
    · have ht : t < 4 - r := by
        rcases Nat.lt_or_ge t (4 - r) with h | h
        · exact h
        · have he : t = 4 - r := by omega
          subst he
          obtain ⟨q1, q2, _⟩ := law_fin hb hlk
          rw [wAt_end, q2] at hgo
          simp [q1] at hgo
      obtain ⟨q1, q2⟩ := wAt_step hb (r := r) ht
      refine Ex.assign (pv := .int (wAt b r (t + 1))) (FEv.N (EvTN.eq (EvT.imm (EvT.itemTup (k := 0) (r := .int ((wAt b r t).fdiv (b - 1))) (by walk_at "mine ev") (EvTN.ev EvTN.cint) (by omega) (by omega) rfl (fun _ _ => rfl)) rfl) (by rw [q1]))) (by simp) (.inl rfl) (by walk_at "mine up") ?_
      refine Ex.assign (pv := .int ((t + 1 : Nat) : Int)) (FEv.N (EvTN.eq (EvTN.binop (by walk_at "mine ev") (EvTN.ev EvTN.cint) Op2.add) (by rw [Int.natCast_add]; rfl))) (by simp) (.inl rfl) (by walk_at "mine up") ?_
      refine Ex.assign (FEv.N (EvTN.call (by walk_at "mine fn") (by exact (fnDivmod.ok hW).callee) (by walk_at "mine args") rfl rfl (dm (t + 1)))) (by simp) (.inl rfl) (by walk_at "mine up") ?_
      exact Ex.nil ⟨n - 1, by omega, t + 1, by omega, rfl, rfl⟩
    · have ht : t = 4 - r := by
        rcases Nat.lt_or_ge t (4 - r) with h | h
        · obtain ⟨_, q2⟩ := wAt_step hb (r := r) h
          rw [q2] at hstop
          have : (t : Int) < 4 := by omega
          simp [this] at hstop
        · omega
      subst ht
      obtain ⟨q1, q2, q3⟩ := law_fin hb hlk
      rw [wAt_end, q2]
      have hz : (Builtin.Int.intBits b : Int) * ((r : Nat) : Int) ≤ 2 ^ 27 := by
        have : (Builtin.Int.intBits b : Int) * ((r : Nat) : Int) ≤ (5000 : Int) * 3 := by exact_mod_cast Nat.mul_le_mul hbb hlk
        omega
      have lenL : ∀ (σ : Loc) (p1 p2 p3 : Pos), σ "like" = some (.list (natPV lk)) → EvN W 74 (lawEnv L a cd) σ (.Call (.Name "len" p1) [.Name "like" p2] [] p3) (.int (r : Nat)) := fun σ p1 p2 p3 h => by
        have e := EvTN.call (W := W) (d := 74) (env := lawEnv L a cd) (σ := σ) (pos := p3) (p := p1) (f := "len") (e := .Name "like" p2) (rest := []) (gnb hW rfl (fun P => rfl) rfl (by decide)) (.inl ⟨_, rfl⟩) (EvL.cons (EvT.name h rfl rfl) EvL.nil rfl) rfl rfl (CallSp.lenN (by rw [natPV_length]; omega))
        rw [natPV_length, ← hr] at e
        exact e
      refine Ex.assign (pv := .int (b ^ r)) (FEv.N (EvTN.eq (EvTN.binop (by walk_at "mine ev") (EvTN.ev (lenL _ _ _ _ rfl)) (Op2.pow (by omega) hz)) (by rw [Int.toNat_natCast]))) (by simp) (.inl rfl) (by walk_at "mine up") ?_
      refine Ex.assign (pv := .int (restOf b)) (FEv.N (EvTN.ite (b := decide (b > 0)) (EvB.cmp (by walk_at "mine ev") (EvTN.ev EvTN.cint) Op2.gti rfl) (fun h => EvTN.eq EvTN.cint (by rw [restOf, if_pos (of_decide_eq_true h)])) (fun h => EvTN.eq (by walk_at "mine ev") (by rw [restOf, if_neg (of_decide_eq_false h)])))) (by simp) (.inl rfl) (by walk_at "mine up") ?_
      refine Ex.ifRet (b := false) (EvB.cast (EvB.or (EvB.cmp (by walk_at "mine ev") (EvTN.ev (EvTN.binop (EvTN.ev EvTN.cint) (EvTN.ev (lenL _ _ _ _ rfl)) Op2.sub)) Op2.nei rfl) (fun _ => EvB.or (EvB.cmp (by walk_at "mine ev") (by walk_at "mine ev") Op2.nei rfl) (fun _ => EvB.or_nil))) ?_) (fun h => (by cases h)) fun _ => ?_
      · have e : ((4 - r : Nat) : Int) = 4 - (r : Int) := by omega
        simp [e]
      have hp : Builtin.divisionGoesByPylong (b ^ r - restOf b) (b - 1) = false := pylong_no (Nat.lt_of_lt_of_le hb8 (Nat.pow_le_pow_right (by omega) (by omega)))
      refine Ex.ret (EvTN.eq (EvTN.cmp (a := .tup [.int ((b ^ r).fdiv (b - 1)), .int (restOf b)]) (b := .tup [.int ((b ^ r - restOf b).fdiv (b - 1)), .int (restOf b)]) (by walk_at "mine ev") (EvTN.ev (EvTN.tuple (EvLN.cons (EvTN.binop (EvTN.ev (EvTN.binop (by walk_at "mine ev") (by walk_at "mine ev") Op2.sub)) (EvTN.ev (EvTN.binop (by walk_at "mine ev") (EvTN.ev EvTN.cint) Op2.sub)) (Op2.fdiv hc hp)) (EvLN.cons (by walk_at "mine ev") EvLN.nil rfl) rfl) (by simp [sizeLine]))) Op2.eqTup rfl) (by rw [q3]; simp)) rfl
end

noncomputable def codeAt (H : List Int) (k : Nat) : Int := 33 + (H.getD (4 + (H.getD k 0).fmod 3).toNat 0).fmod 94
noncomputable def codesOf (H : List Int) : List Nat := (List.range 4).map fun k => (codeAt H k).toNat
theorem codeAt_ok (H : List Int) (k : Nat) : 33 ≤ codeAt H k ∧ codeAt H k ≤ 126 := by
  unfold codeAt
  have h1 := Int.fmod_nonneg_of_pos (H.getD (4 + (H.getD k 0).fmod 3).toNat 0) (show (0 : Int) < 94 by omega)
  have h2 := Int.fmod_lt_of_pos (H.getD (4 + (H.getD k 0).fmod 3).toNat 0) (show (0 : Int) < 94 by omega)
  omega
theorem codesOf_ok (H : List Int) : ∀ c ∈ codesOf H, 33 ≤ c ∧ c ≤ 126 := fun c hc => by
  obtain ⟨k, _, rfl⟩ := List.mem_map.mp hc
  have := codeAt_ok H k; omega
theorem codesOf_length (H : List Int) : (codesOf H).length = 4 := by simp [codesOf]
noncomputable def likeOf (codes : List Nat) : List Nat := [1, 2, 3].filter fun k => codes.getD k 0 == codes.getD (k - 1) 0
noncomputable def firsts (every : List (List Nat)) : List (List Nat) := ((List.range 16).filter fun k => !((every.take k).contains (every.getD k []))).map fun k => every.getD k []
noncomputable def turnOf (codes : List Nat) : List Nat := codes.drop 1 ++ codes.take 1
noncomputable def wantNum (codes t : List Nat) : Int := (-1) ^ (4 - t.length) * (countL (choicesL codes (likeOf codes) 16) t : Nat)
noncomputable def sumOf (codes : List Nat) : Int := ((List.range 4).map fun k => price (codes.getD k 0 : Nat) ((turnOf codes).getD k 0 : Nat)).sum
noncomputable def priceOf (codes : List Nat) : Int := if sumOf codes < 4 then sumOf codes else 4
/-- what the law wants of the signs -/
structure LawOk (codes : List Nat) : Prop where
  len1 : 1 ≤ (partsOf codes).length
  len20 : (partsOf codes).length ≤ 20
  short : ∀ t ∈ partsOf codes, t.length ≤ 4
  perm : (partsOf codes).Perm (firsts (choicesL codes [] 16))
  nums : numbersOf (partsOf codes) = (partsOf codes).map (wantNum codes)
  lev1 : lev codes (turnOf codes) 4 = priceOf codes
  lev2 : lev (turnOf codes) codes 4 = priceOf codes
  whole : ∀ b, wholeOf (partsOf codes) (numbersOf (partsOf codes)) b (partsOf codes).length = b ^ (likeOf codes).length * (b - 1) ^ (4 - (likeOf codes).length)

theorem choices_all_length (codes : List Nat) : (choicesL codes [] 16).length = 16 := by
  unfold choicesL
  rw [List.length_map, List.filter_eq_self.mpr (fun n _ => by simp [choiceOk]), List.length_range]
theorem choices_length (codes nd : List Nat) : (choicesL codes nd 16).length ≤ 16 := by
  unfold choicesL
  rw [List.length_map]
  have := List.length_filter_le (choiceOk nd) (List.range 16)
  simpa using this
theorem likeOf_length (codes : List Nat) : (likeOf codes).length ≤ 3 := by
  have := List.length_filter_le (fun k => codes.getD k 0 == codes.getD (k - 1) 0) [1, 2, 3]
  simpa [likeOf] using this
theorem count_le (ls : List (List Nat)) (t : List Nat) : countL ls t ≤ ls.length := List.length_filter_le _ _
theorem wantNum_bits (codes t : List Nat) : Builtin.Int.intBits (wantNum codes t) ≤ 64 := by
  refine intBits_le_iff.mpr ?_
  unfold wantNum
  have h1 := count_le (choicesL codes (likeOf codes) 16) t
  have h2 := choices_length codes (likeOf codes)
  rw [Int.natAbs_mul, Int.natAbs_pow, Int.natAbs_natCast]
  have : (-1 : Int).natAbs ^ (4 - t.length) = 1 := by simp
  rw [this]
  have : (2 : Nat) ^ 5 ≤ 2 ^ 64 := Nat.pow_le_pow_right (by omega) (by omega)
  omega
theorem heapsOf_length (script : List Int) : (heapsOf script).length = 8 := by simp [heapsOf]
/-- every item of a text's choice is one of the word's signs -/
theorem choice_mem {codes nd : List Nat} (h4 : codes.length = 4) {t : List Nat} (ht : t ∈ choicesL codes nd 16) : ∀ c ∈ t, c ∈ codes := by
  unfold choicesL at ht
  obtain ⟨n, hn, rfl⟩ := List.mem_map.mp ht
  intro c hc
  unfold pickW at hc
  obtain ⟨k, hk, rfl⟩ := List.mem_map.mp hc
  have hk4 : k < codes.length := by rw [h4]; exact List.mem_range.mp (List.mem_filter.mp hk).1
  simp [hk4]
theorem strOk_S {t : List Nat} (h : ∀ c ∈ t, c ≤ 126) : PyData.strOk (S t) = true := by
  unfold PyData.strOk S
  rw [Array.all_eq_true']
  intro c hc
  have := h c (by simpa using hc)
  exact decide_eq_true (by omega)
theorem strPV_map (ls : List (List Nat)) : strPV ls = (ls.map S).map PV.str := strPV_strs ls

/-! the plain law: the signs' names do not matter -/
noncomputable def levRowG (sub : Nat → Nat → Int) (c : Nat) : List Nat → List Int → Int → Int → Int → List Int × Int × Int
  | a :: as, w :: row, dist, res, mn =>
    let s := dist + sub c a
    let ins := (if w < res then w else res) + 2
    let r := if s < ins then s else ins
    let out := levRowG sub c as row w r (if r < mn then r else mn)
    (r :: out.1, out.2)
  | _, row, _, res, mn => (row, res, mn)
noncomputable def levRowsG (sub : Nat → Nat → Int) (a : List Nat) (mc : Int) : List Nat → Nat → List Int → Int → Int
  | [], _, _, res => res
  | c :: bs, i, row, res =>
    let out := levRowG sub c a row ((i : Int) * 2) ((i : Int) * 2) 9223372036854775807
    if out.2.2 > mc then mc + 1 else levRowsG sub a mc bs (i + 1) out.1 out.2.1
noncomputable def levC2G (sub : Nat → Nat → Int) (a b : List Nat) (mc : Int) : Int :=
  if ((b.length : Int) - a.length) * 2 > mc then mc + 1 else levRowsG sub a mc b 0 ((List.range a.length).map fun (i : Nat) => 2 + (i : Int) * 2) 0
noncomputable def levCG (sub : Nat → Nat → Int) (a b : List Nat) (mc : Int) : Int :=
  if a = [] ∨ b = [] then 2 * ((a.length : Int) + b.length) else if b.length < a.length then levC2G sub b a mc else levC2G sub a b mc
noncomputable def levG (sub : Nat → Nat → Int) (a b : List Nat) (mc : Int) : Int :=
  if a = b then 0 else
    let p := stripP a b
    let q := stripP p.1.reverse p.2.reverse
    levCG sub q.1.reverse q.2.reverse mc

/-- how the signs of a list are renamed -/
structure Ren (f : Nat → Nat) (D : Nat → Prop) (sub sub' : Nat → Nat → Int) : Prop where
  inj : ∀ x y, D x → D y → f x = f y → x = y
  sub : ∀ x y, D x → D y → sub (f x) (f y) = sub' x y
noncomputable abbrev In' (D : Nat → Prop) (l : List Nat) : Prop := ∀ x ∈ l, D x

section
variable {f : Nat → Nat} {D : Nat → Prop} {sub sub' : Nat → Nat → Int} (R : Ren f D sub sub')
include R
theorem map_inj : ∀ {a b : List Nat}, In' D a → In' D b → a.map f = b.map f → a = b
  | [], [], _, _, _ => rfl
  | [], _ :: _, _, _, h => by cases h
  | _ :: _, [], _, _, h => by cases h
  | x :: a, y :: b, ha, hb, h => by
    simp only [List.map_cons, List.cons.injEq] at h
    rw [R.inj x y (ha x (.head _)) (hb y (.head _)) h.1, map_inj (fun z hz => ha z (.tail _ hz)) (fun z hz => hb z (.tail _ hz)) h.2]
theorem map_eq_iff {a b : List Nat} (ha : In' D a) (hb : In' D b) : a.map f = b.map f ↔ a = b := ⟨map_inj R ha hb, fun h => by rw [h]⟩
theorem stripP_map : ∀ {a b : List Nat}, In' D a → In' D b → stripP (a.map f) (b.map f) = ((stripP a b).1.map f, (stripP a b).2.map f)
  | [], b, _, _ => by cases b <;> rfl
  | _ :: _, [], _, _ => rfl
  | x :: a, y :: b, ha, hb => by
    have hx := ha x (.head _)
    have hy := hb y (.head _)
    have ih := stripP_map (a := a) (b := b) (fun z hz => ha z (.tail _ hz)) (fun z hz => hb z (.tail _ hz))
    simp only [List.map_cons, stripP]
    by_cases h : x = y
    · subst h; rw [if_pos rfl, if_pos rfl]; exact ih
    · rw [if_neg h, if_neg (fun q => h (R.inj x y hx hy q))]; rfl
omit R in
theorem stripP_in : ∀ {a b : List Nat}, In' D a → In' D b → In' D (stripP a b).1 ∧ In' D (stripP a b).2
  | [], b, ha, hb => by cases b <;> exact ⟨ha, hb⟩
  | _ :: _, [], ha, hb => ⟨ha, hb⟩
  | x :: a, y :: b, ha, hb => by
    simp only [stripP]
    split
    · exact stripP_in (fun z hz => ha z (.tail _ hz)) (fun z hz => hb z (.tail _ hz))
    · exact ⟨ha, hb⟩
theorem levRowG_map {c : Nat} (hc : D c) : ∀ {a : List Nat} {row : List Int} {d r m : Int}, In' D a → levRowG sub (f c) (a.map f) row d r m = levRowG sub' c a row d r m
  | [], _, _, _, _, _ => rfl
  | _ :: _, [], _, _, _, _ => rfl
  | x :: a, w :: row, d, r, m, ha => by
    have e := R.sub c x hc (ha x (.head _))
    simp only [List.map_cons, levRowG, e]
    rw [levRowG_map hc (fun z hz => ha z (.tail _ hz))]
theorem levRowsG_map {a : List Nat} {mc : Int} (ha : In' D a) : ∀ {b : List Nat} {i : Nat} {row : List Int} {res : Int}, In' D b → levRowsG sub (a.map f) mc (b.map f) i row res = levRowsG sub' a mc b i row res
  | [], _, _, _, _ => rfl
  | y :: b, i, row, res, hb => by
    simp only [List.map_cons, levRowsG]
    rw [levRowG_map R (hb y (.head _)) ha, levRowsG_map ha (fun z hz => hb z (.tail _ hz))]
theorem levC2G_map {a b : List Nat} {mc : Int} (ha : In' D a) (hb : In' D b) : levC2G sub (a.map f) (b.map f) mc = levC2G sub' a b mc := by
  unfold levC2G
  rw [List.length_map, List.length_map, levRowsG_map R ha hb]
theorem levCG_map {a b : List Nat} {mc : Int} (ha : In' D a) (hb : In' D b) : levCG sub (a.map f) (b.map f) mc = levCG sub' a b mc := by
  unfold levCG
  rw [List.length_map, List.length_map, levC2G_map R ha hb, levC2G_map R hb ha]
  simp only [List.map_eq_nil_iff]
theorem levG_map {a b : List Nat} {mc : Int} (ha : In' D a) (hb : In' D b) : levG sub (a.map f) (b.map f) mc = levG sub' a b mc := by
  unfold levG
  by_cases h : a = b
  · subst h; simp
  · rw [if_neg h, if_neg (fun q => h (map_inj R ha hb q))]
    have h1 := stripP_in ha hb
    have r1 : In' D (stripP a b).1.reverse := fun x hx => h1.1 x (List.mem_reverse.mp hx)
    have r2 : In' D (stripP a b).2.reverse := fun x hx => h1.2 x (List.mem_reverse.mp hx)
    have h2 := stripP_in r1 r2
    simp only
    rw [stripP_map R ha hb]
    simp only
    rw [← List.map_reverse, ← List.map_reverse, stripP_map R r1 r2]
    simp only
    rw [← List.map_reverse, ← List.map_reverse]
    exact levCG_map R (fun x hx => h2.1 x (List.mem_reverse.mp hx)) (fun x hx => h2.2 x (List.mem_reverse.mp hx))
end
theorem levRow_G {c : Nat} : ∀ {a : List Nat} {row : List Int} {d r m : Int}, levRow c a row d r m = levRowG subC c a row d r m
  | [], _, _, _, _ => rfl
  | _ :: _, [], _, _, _ => rfl
  | x :: a, w :: row, d, r, m => by simp only [levRow, levRowG]; rw [levRow_G]
theorem levRows_G {a : List Nat} {mc : Int} : ∀ {b : List Nat} {i : Nat} {row : List Int} {res : Int}, levRows a mc b i row res = levRowsG subC a mc b i row res
  | [], _, _, _ => rfl
  | y :: b, i, row, res => by simp only [levRows, levRowsG]; rw [levRow_G, levRows_G]
theorem lev_G {a b : List Nat} {mc : Int} : lev a b mc = levG subC a b mc := by
  unfold lev levG levC levCG levC2 levC2G
  simp only [levRows_G]

/-! the numbers -/
noncomputable def numTurnG (L : List Nat → List Nat → Int → Int) (ts : List (List Nat)) (nums : List Int) (k j : Nat) (here : Int) : Option Int :=
  let tj := ts.getD j []
  let tk := ts.getD k []
  let more := 2 * ((tj.length : Int) - tk.length)
  if more > 0 then
    let told := if (j + k) % 2 = 0 then L tk tj (if tk = [] then 0 else more) else L tj tk (more + k)
    if told < more then none else some (if told = more then here - nums.getD j 0 else here)
  else some here
noncomputable def numInnerG (L : List Nat → List Nat → Int → Int) (ts : List (List Nat)) (nums : List Int) (k : Nat) : Nat → Option Int
  | 0 => some 0
  | j + 1 => (numInnerG L ts nums k j).bind (numTurnG L ts nums k j)
noncomputable def numOuterG (L : List Nat → List Nat → Int → Int) (ts : List (List Nat)) : Nat → Option (List Int)
  | 0 => some [1]
  | k + 1 => (numOuterG L ts k).bind fun nums => (numInnerG L ts nums (k + 1) (k + 1)).map fun h => nums ++ [h]
noncomputable def numbersG (L : List Nat → List Nat → Int → Int) (ts : List (List Nat)) : List Int := (numOuterG L ts (ts.length - 1)).getD []
theorem getD_map_nil (f : Nat → Nat) (ts : List (List Nat)) (j : Nat) : (ts.map (List.map f)).getD j [] = (ts.getD j []).map f := by
  rw [List.getD_eq_getElem?_getD, List.getD_eq_getElem?_getD, List.getElem?_map]
  cases ts[j]? <;> rfl
section
variable {f : Nat → Nat} {D : Nat → Prop} {L L' : List Nat → List Nat → Int → Int} (hL : ∀ a b mc, In' D a → In' D b → L (a.map f) (b.map f) mc = L' a b mc) {ts : List (List Nat)} (hts : ∀ t ∈ ts, In' D t)
include hL hts
theorem numTurnG_map {nums : List Int} {k j : Nat} {here : Int} : numTurnG L (ts.map (List.map f)) nums k j here = numTurnG L' ts nums k j here := by
  have g : ∀ i, In' D (ts.getD i []) := fun i => by
    rw [List.getD_eq_getElem?_getD]
    cases h : ts[i]? with
    | none => intro x hx; cases hx
    | some t => exact hts t (List.mem_of_getElem? h)
  unfold numTurnG
  simp only [getD_map_nil, List.length_map, List.map_eq_nil_iff]
  rw [hL _ _ _ (g k) (g j), hL _ _ _ (g j) (g k)]
theorem numInnerG_map {nums : List Int} {k : Nat} : ∀ j, numInnerG L (ts.map (List.map f)) nums k j = numInnerG L' ts nums k j
  | 0 => rfl
  | j + 1 => by
    simp only [numInnerG]
    rw [numInnerG_map j]
    congr 1
    funext h
    exact numTurnG_map hL hts
theorem numOuterG_map : ∀ k, numOuterG L (ts.map (List.map f)) k = numOuterG L' ts k
  | 0 => rfl
  | k + 1 => by
    simp only [numOuterG]
    rw [numOuterG_map k]
    congr 1
    funext nums
    rw [numInnerG_map hL hts]
theorem numbersG_map : numbersG L (ts.map (List.map f)) = numbersG L' ts := by
  unfold numbersG
  rw [List.length_map, numOuterG_map hL hts]
end
theorem numbersOf_G (ts : List (List Nat)) : numbersOf ts = numbersG lev ts := by
  have i : ∀ nums k j, numInner ts nums k j = numInnerG lev ts nums k j := fun nums k j => by
    induction j with
    | zero => rfl
    | succ j ih => simp only [numInner, numInnerG, ih]; rfl
  have o : ∀ k, numOuter ts k = numOuterG lev ts k := fun k => by
    induction k with
    | zero => rfl
    | succ k ih => simp only [numOuter, numOuterG, ih, i]
  unfold numbersOf numbersG
  rw [o]

/-! the parts -/
noncomputable def addRowG (c : Nat) (st : List (List Nat)) (row : List Nat) : List (List Nat) := if st.contains (row ++ [c]) then st else st ++ [row ++ [c]]
noncomputable def addCodeG (st : List (List Nat)) (c : Nat) : List (List Nat) := st.foldl (addRowG c) st
noncomputable def rowsG (w : List Nat) : List (List Nat) := w.foldl addCodeG [[]]
noncomputable def partsG (w : List Nat) : List (List Nat) := [4, 3, 2, 1, 0].flatMap fun s => (rowsG w).filter fun r => r.length == s

/-- rows are told apart by their numbers -/
theorem dval_inj {a b : List Nat} (ha : ∀ d ∈ a, 33 ≤ d ∧ d ≤ 126) (hb : ∀ d ∈ b, 33 ≤ d ∧ d ≤ 126) (h : dval 7 a = dval 7 b) : a = b := by
  have l1 := nOf_dval ha
  have l2 := nOf_dval hb
  have d1 := digs_dval (n := 7) (ds := a) fun d hd => by have := ha d hd; omega
  have d2 := digs_dval (n := 7) (ds := b) fun d hd => by have := hb d hd; omega
  rw [h] at l1 d1
  rw [← l1, l2] at d1
  rw [← d1, d2]
theorem contains_dval {st : List (List Nat)} {x : List Nat} (hs : ∀ r ∈ st, ∀ d ∈ r, 33 ≤ d ∧ d ≤ 126) (hx : ∀ d ∈ x, 33 ≤ d ∧ d ≤ 126) : (st.map (dval 7)).contains (dval 7 x) = st.contains x := by
  rw [Bool.eq_iff_iff, List.contains_iff_mem, List.contains_iff_mem, List.mem_map]
  constructor
  · rintro ⟨r, hr, e⟩
    rw [← dval_inj (hs r hr) hx e]; exact hr
  · exact fun h => ⟨x, h, rfl⟩
theorem addRow_G {c : Nat} {st : List (List Nat)} {row : List Nat} (hc : 33 ≤ c ∧ c ≤ 126) (hs : ∀ r ∈ st, ∀ d ∈ r, 33 ≤ d ∧ d ≤ 126) (hr : ∀ d ∈ row, 33 ≤ d ∧ d ≤ 126) : addRow c st row = addRowG c st row := by
  unfold addRow addRowG
  rw [contains_dval hs fun d hd => by
    rcases List.mem_append.mp hd with q | q
    · exact hr d q
    · simp only [List.mem_singleton] at q; subst q; exact hc]
theorem addFold_G {i c : Nat} (hc : 33 ≤ c ∧ c ≤ 126) : ∀ {rs st : List (List Nat)} {n : Nat}, RowsOk n (i + 1) st → (∀ r ∈ rs, r.length ≤ i ∧ ∀ d ∈ r, 33 ≤ d ∧ d ≤ 126) → rs.foldl (addRow c) st = rs.foldl (addRowG c) st
  | [], _, _, _, _ => rfl
  | r :: rs, st, n, h, hr => by
    have h1 := hr r (.head _)
    simp only [List.foldl_cons]
    rw [addFold_G hc (h.add hc h1) fun x hx => hr x (.tail _ hx), addRow_G hc (fun x hx => (h.row x hx).2) h1.2]
theorem rows_G : ∀ {codes : List Nat} {i n : Nat} {st : List (List Nat)}, (∀ c ∈ codes, 33 ≤ c ∧ c ≤ 126) → RowsOk n i st → codes.foldl addCode st = codes.foldl addCodeG st
  | [], _, _, _, _, _ => rfl
  | c :: cs, i, n, st, hc, h => by
    have h1 := hc c (.head _)
    simp only [List.foldl_cons]
    rw [rows_G (fun x hx => hc x (.tail _ hx)) (h.code h1)]
    congr 1
    exact addFold_G h1 (h.up (Nat.le_refl _) (Nat.le_succ _)) h.row
theorem parts_G {codes : List Nat} (hc : ∀ c ∈ codes, 33 ≤ c ∧ c ≤ 126) : partsOf codes = partsG codes := by
  unfold partsOf partsG rowsOf rowsG
  rw [rows_G hc rowsOk_start]

section
variable {f : Nat → Nat} {D : Nat → Prop} {sub sub' : Nat → Nat → Int} (R : Ren f D sub sub')
include R
theorem contains_map {ls : List (List Nat)} {t : List Nat} (hl : ∀ x ∈ ls, In' D x) (ht : In' D t) : (ls.map (List.map f)).contains (t.map f) = ls.contains t := by
  rw [Bool.eq_iff_iff, List.contains_iff_mem, List.contains_iff_mem, List.mem_map]
  constructor
  · rintro ⟨r, hr, e⟩
    rw [← map_inj R (hl r hr) ht e]; exact hr
  · exact fun h => ⟨t, h, rfl⟩
omit R in
theorem addRowG_in {c : Nat} (hc : D c) {st : List (List Nat)} {row : List Nat} (hs : ∀ r ∈ st, In' D r) (hr : In' D row) : ∀ r ∈ addRowG c st row, In' D r := fun r hm => by
  unfold addRowG at hm
  split at hm
  · exact hs r hm
  · rcases List.mem_append.mp hm with q | q
    · exact hs r q
    · simp only [List.mem_singleton] at q
      subst q
      intro d hd
      rcases List.mem_append.mp hd with q | q
      · exact hr d q
      · simp only [List.mem_singleton] at q; subst q; exact hc
theorem addRowG_map {c : Nat} (hc : D c) {st : List (List Nat)} {row : List Nat} (hs : ∀ r ∈ st, In' D r) (hr : In' D row) : addRowG (f c) (st.map (List.map f)) (row.map f) = (addRowG c st row).map (List.map f) := by
  unfold addRowG
  have e : row.map f ++ [f c] = (row ++ [c]).map f := by simp
  have hin : In' D (row ++ [c]) := fun d hd => by
    rcases List.mem_append.mp hd with q | q
    · exact hr d q
    · simp only [List.mem_singleton] at q; subst q; exact hc
  rw [e, contains_map R hs hin]
  split
  · rfl
  · simp
theorem addFoldG_map {c : Nat} (hc : D c) : ∀ {rs st : List (List Nat)}, (∀ r ∈ rs, In' D r) → (∀ r ∈ st, In' D r) → (rs.map (List.map f)).foldl (addRowG (f c)) (st.map (List.map f)) = (rs.foldl (addRowG c) st).map (List.map f) ∧ ∀ r ∈ rs.foldl (addRowG c) st, In' D r
  | [], _, _, hs => ⟨rfl, hs⟩
  | r :: rs, st, hr, hs => by
    have h1 := hr r (.head _)
    simp only [List.map_cons, List.foldl_cons]
    rw [addRowG_map R hc hs h1]
    exact addFoldG_map hc (fun x hx => hr x (.tail _ hx)) (addRowG_in hc hs h1)
theorem rowsG_map : ∀ {w : List Nat} {st : List (List Nat)}, In' D w → (∀ r ∈ st, In' D r) → (w.map f).foldl addCodeG (st.map (List.map f)) = (w.foldl addCodeG st).map (List.map f) ∧ ∀ r ∈ w.foldl addCodeG st, In' D r
  | [], _, _, hs => ⟨rfl, hs⟩
  | c :: w, st, hw, hs => by
    have h1 := addFoldG_map R (hw c (.head _)) hs hs
    simp only [List.map_cons, List.foldl_cons]
    show List.foldl addCodeG (List.foldl (addRowG (f c)) (st.map (List.map f)) (st.map (List.map f))) _ = _ ∧ _
    rw [h1.1]
    exact rowsG_map (fun x hx => hw x (.tail _ hx)) h1.2
theorem partsG_map {w : List Nat} (hw : In' D w) : partsG (w.map f) = (partsG w).map (List.map f) ∧ ∀ r ∈ partsG w, In' D r := by
  have h := rowsG_map R (w := w) (st := [[]]) hw (fun r hr => by simp only [List.mem_singleton] at hr; subst hr; intro x hx; cases hx)
  constructor
  · unfold partsG
    have e : rowsG (w.map f) = (rowsG w).map (List.map f) := h.1
    rw [e, List.map_flatMap]
    congr 1
    funext s
    rw [List.filter_map]
    congr 1
    apply List.filter_congr
    intro r _
    simp
  · intro r hr
    unfold partsG at hr
    obtain ⟨s, _, hm⟩ := List.mem_flatMap.mp hr
    exact h.2 r (List.mem_filter.mp hm).1

/-! choices -/
omit R in
theorem pickW_map {w : List Nat} {ks : List Nat} (hk : ∀ k ∈ ks, k < w.length) : pickW (w.map f) ks = (pickW w ks).map f := by
  unfold pickW
  rw [List.map_map]
  apply List.map_congr_left
  intro k hk'
  have := hk k hk'
  simp [this]
omit R in
theorem keptL_lt {n k : Nat} (h : k ∈ keptL n) : k < 4 := List.mem_range.mp (List.mem_filter.mp h).1
omit R in
theorem choicesL_map {w nd : List Nat} (h4 : w.length = 4) : choicesL (w.map f) nd 16 = (choicesL w nd 16).map (List.map f) := by
  unfold choicesL
  rw [List.map_map]
  apply List.map_congr_left
  intro n _
  exact pickW_map fun k hk => by have := keptL_lt hk; omega
omit R in
theorem choicesL_in {w nd : List Nat} (h4 : w.length = 4) (hw : In' D w) : ∀ t ∈ choicesL w nd 16, In' D t := fun t ht c hc => hw c (choice_mem h4 ht c hc)
theorem countL_map {ls : List (List Nat)} {t : List Nat} (hl : ∀ x ∈ ls, In' D x) (ht : In' D t) : countL (ls.map (List.map f)) (t.map f) = countL ls t := by
  unfold countL
  rw [List.filter_map, List.length_map]
  congr 1
  apply List.filter_congr
  intro x hx
  show (x.map f == t.map f) = (x == t)
  rw [Bool.eq_iff_iff, beq_iff_eq, beq_iff_eq]
  exact map_eq_iff R (hl x hx) ht
theorem likeOf_map {w : List Nat} (h4 : w.length = 4) (hw : In' D w) : likeOf (w.map f) = likeOf w := by
  unfold likeOf
  apply List.filter_congr
  intro k hk
  have hk3 : 1 ≤ k ∧ k ≤ 3 := by simp only [List.mem_cons, List.not_mem_nil, or_false] at hk; omega
  have k1 : k < w.length := by omega
  have k2 : k - 1 < w.length := by omega
  have e1 : (w.map f).getD k 0 = f w[k] := by simp [k1]
  have e2 : (w.map f).getD (k - 1) 0 = f w[k - 1] := by
    rw [List.getD_eq_getElem?_getD, List.getElem?_map, List.getElem?_eq_getElem k2]; rfl
  have e3 : w.getD k 0 = w[k] := by simp [k1]
  have e4 : w.getD (k - 1) 0 = w[k - 1] := by rw [List.getD_eq_getElem?_getD, List.getElem?_eq_getElem k2]; rfl
  rw [e1, e2, e3, e4, Bool.eq_iff_iff, beq_iff_eq, beq_iff_eq]
  exact ⟨R.inj _ _ (hw _ (List.getElem_mem k1)) (hw _ (List.getElem_mem k2)), fun h => by rw [h]⟩
theorem firsts_map {ev : List (List Nat)} (hl : ∀ x ∈ ev, In' D x) : firsts (ev.map (List.map f)) = (firsts ev).map (List.map f) := by
  have g : ∀ i, In' D (ev.getD i []) := fun i => by
    rw [List.getD_eq_getElem?_getD]
    cases h : ev[i]? with
    | none => intro x hx; cases hx
    | some t => exact hl t (List.mem_of_getElem? h)
  unfold firsts
  simp only [getD_map_nil, ← List.map_take]
  rw [List.map_map]
  have e : ((List.range 16).filter fun k => !((ev.take k).map (List.map f)).contains ((ev.getD k []).map f)) = (List.range 16).filter fun k => !((ev.take k).contains (ev.getD k [])) := by
    apply List.filter_congr
    intro k _
    rw [contains_map R (fun x hx => hl x (List.mem_of_mem_take hx)) (g k)]
  rw [e]
  rfl
omit R in
theorem turnOf_map {w : List Nat} : turnOf (w.map f) = (turnOf w).map f := by simp [turnOf]
omit R in
theorem turnOf_in {w : List Nat} (hw : In' D w) : In' D (turnOf w) := fun c hc => by
  rcases List.mem_append.mp hc with h | h
  · exact hw c (List.mem_of_mem_drop h)
  · exact hw c (List.mem_of_mem_take h)
end

noncomputable def sumG (sub : Nat → Nat → Int) (w : List Nat) : Int := ((List.range 4).map fun k => sub (w.getD k 0) ((turnOf w).getD k 0)).sum
noncomputable def priceG (sub : Nat → Nat → Int) (w : List Nat) : Int := if sumG sub w < 4 then sumG sub w else 4
noncomputable def coefOf (ts : List (List Nat)) (nums : List Int) (l : Nat) : Nat → Int
  | 0 => 0
  | k + 1 => coefOf ts nums l k + if (ts.getD k []).length = l then nums.getD k 0 else 0
noncomputable def coefW : Nat → List Int
  | 0 => [1, -4, 6, -4, 1]
  | 1 => [0, -1, 3, -3, 1]
  | 2 => [0, 0, 1, -2, 1]
  | _ => [0, 0, 0, -1, 1]
noncomputable def checkN (sub : Nat → Nat → Int) (w : List Nat) (ps : List (List Nat)) (nums : List Int) : Bool :=
  (numbersG (levG sub) ps == nums) && (nums == ps.map (wantNum w)) && ((List.range 5).map (fun l => coefOf ps nums l ps.length) == coefW (likeOf w).length)
noncomputable def checkP (w : List Nat) (ps : List (List Nat)) : Bool :=
  (partsG w == ps) && decide (1 ≤ ps.length) && decide (ps.length ≤ 20) && ps.all (fun t => decide (t.length ≤ 4)) && ps.isPerm (firsts (choicesL w [] 16))
noncomputable def checkL (sub : Nat → Nat → Int) (w : List Nat) : Bool :=
  (levG sub w (turnOf w) 4 == priceG sub w) && (levG sub (turnOf w) w 4 == priceG sub w)
structure CheckOk (sub : Nat → Nat → Int) (w : List Nat) (ps : List (List Nat)) (nums : List Int) : Prop where
  n : checkN sub w ps nums = true
  p : checkP w ps = true
  l : checkL sub w = true

theorem whole_coef {ts : List (List Nat)} {nums : List Int} {b : Int} (h4 : ∀ t ∈ ts, t.length ≤ 4) : ∀ n, wholeOf ts nums b n = coefOf ts nums 0 n + coefOf ts nums 1 n * b + coefOf ts nums 2 n * b ^ 2 + coefOf ts nums 3 n * b ^ 3 + coefOf ts nums 4 n * b ^ 4
  | 0 => by simp [wholeOf, coefOf]
  | n + 1 => by
    have ih := whole_coef (nums := nums) (b := b) h4 n
    have hl : (ts.getD n []).length ≤ 4 := by
      rw [List.getD_eq_getElem?_getD]
      cases h : ts[n]? with
      | none => simp
      | some t => exact h4 t (List.mem_of_getElem? h)
    simp only [wholeOf, coefOf, ih]
    generalize (ts.getD n []).length = l at hl ⊢
    generalize nums.getD n 0 = c
    have : l = 0 ∨ l = 1 ∨ l = 2 ∨ l = 3 ∨ l = 4 := by omega
    rcases this with rfl | rfl | rfl | rfl | rfl <;> simp <;> grind
theorem coefW_ok {r : Nat} (hr : r ≤ 3) {c0 c1 c2 c3 c4 b : Int} (h : [c0, c1, c2, c3, c4] = coefW r) : c0 + c1 * b + c2 * b ^ 2 + c3 * b ^ 3 + c4 * b ^ 4 = b ^ r * (b - 1) ^ (4 - r) := by
  have : r = 0 ∨ r = 1 ∨ r = 2 ∨ r = 3 := by omega
  rcases this with rfl | rfl | rfl | rfl <;> simp only [coefW, List.cons.injEq, and_true] at h <;> obtain ⟨rfl, rfl, rfl, rfl, rfl⟩ := h <;> grind
theorem wholeOf_map (f : Nat → Nat) {ts : List (List Nat)} {nums : List Int} {b : Int} : ∀ n, wholeOf (ts.map (List.map f)) nums b n = wholeOf ts nums b n
  | 0 => rfl
  | n + 1 => by simp only [wholeOf, getD_map_nil, List.length_map, wholeOf_map f n]

theorem law_of_check {f : Nat → Nat} {D : Nat → Prop} {sub : Nat → Nat → Int} {w : List Nat} {ps : List (List Nat)} {nums : List Int} (R : Ren f D subC sub) (hw : In' D w) (h4 : w.length = 4) (hok : ∀ c ∈ w.map f, 33 ≤ c ∧ c ≤ 126)
    (hprice : ∀ x y, D x → D y → price (f x : Nat) (f y : Nat) = sub x y) (hc : CheckOk sub w ps nums) : LawOk (w.map f) := by
  obtain ⟨hn, hp, hl⟩ := hc
  simp only [checkN, checkP, checkL, Bool.and_eq_true, beq_iff_eq, decide_eq_true_eq, List.all_eq_true] at hn hp hl
  obtain ⟨⟨n1, n2⟩, n3⟩ := hn
  obtain ⟨⟨⟨⟨p1, p2⟩, p3⟩, p4⟩, p5⟩ := hp
  obtain ⟨l1, l2⟩ := hl
  have hpm := partsG_map R hw
  rw [p1] at hpm
  have hparts : partsOf (w.map f) = ps.map (List.map f) := by rw [parts_G hok]; exact hpm.1
  have hps := hpm.2
  have htin := turnOf_in hw
  have hev := choicesL_in (nd := []) h4 hw
  have hL : ∀ a b mc, In' D a → In' D b → lev (a.map f) (b.map f) mc = levG sub a b mc := fun a b mc ha hb => by rw [lev_G]; exact levG_map R ha hb
  have hnum : numbersOf (ps.map (List.map f)) = nums := by rw [numbersOf_G, numbersG_map hL hps, n1]
  have hlk := likeOf_map R h4 hw
  have hprice' : priceOf (w.map f) = priceG sub w := by
    have e : sumOf (w.map f) = sumG sub w := by
      unfold sumOf sumG
      congr 1
      apply List.map_congr_left
      intro k hk
      have hk4 : k < 4 := List.mem_range.mp hk
      have htl : (turnOf w).length = 4 := by simp [turnOf]; omega
      have k1 : k < w.length := by omega
      have k2 : k < (turnOf w).length := by omega
      rw [turnOf_map]
      have e1 : (w.map f).getD k 0 = f w[k] := by simp [k1]
      have e2 : ((turnOf w).map f).getD k 0 = f (turnOf w)[k] := by simp [k2]
      have e3 : w.getD k 0 = w[k] := by simp [k1]
      have e4 : (turnOf w).getD k 0 = (turnOf w)[k] := by simp [k2]
      rw [e1, e2, e3, e4]
      exact hprice _ _ (hw _ (List.getElem_mem k1)) (htin _ (List.getElem_mem k2))
    unfold priceOf priceG
    rw [e]
  have want : ∀ t ∈ ps, wantNum (w.map f) (t.map f) = wantNum w t := fun t ht => by
    unfold wantNum
    rw [List.length_map, hlk, choicesL_map h4, countL_map R (choicesL_in h4 hw) (hps t ht)]
  refine ⟨by rw [hparts, List.length_map]; exact p2, by rw [hparts, List.length_map]; exact p3, fun t ht => ?_, ?_, ?_, ?_, ?_, fun b => ?_⟩
  · rw [hparts] at ht
    obtain ⟨u, hu, rfl⟩ := List.mem_map.mp ht
    rw [List.length_map]; exact p4 u hu
  · rw [hparts, choicesL_map h4, firsts_map R hev]
    exact (List.isPerm_iff.mp p5).map _
  · rw [hparts, hnum, n2, List.map_map]
    apply List.map_congr_left
    intro t ht
    exact (want t ht).symm
  · rw [turnOf_map, hL _ _ _ hw htin, l1, hprice']
  · rw [turnOf_map, hL _ _ _ htin hw, l2, hprice']
  · rw [hparts, hnum, List.length_map, wholeOf_map, whole_coef p4, hlk]
    exact coefW_ok (likeOf_length w) n3

noncomputable def low (x : Nat) : Nat := if 65 ≤ x ∧ x ≤ 90 then x + 32 else x
theorem lower_all : (List.range 94).all (fun k => Txt.lower (S [33 + k]) == S [low (33 + k)]) = true := by decide +kernel
theorem lower_S {x : Nat} (h : 33 ≤ x ∧ x ≤ 126) : Txt.lower (S [x]) = S [low x] := by
  have := List.all_eq_true.mp lower_all (x - 33) (List.mem_range.mpr (by omega))
  rw [show 33 + (x - 33) = x by omega] at this
  exact beq_iff_eq.mp this
theorem subC_low {x y : Nat} (hx : 33 ≤ x ∧ x ≤ 126) (hy : 33 ≤ y ∧ y ≤ 126) : subC x y = if x = y then 0 else if low x = low y then 1 else 2 := by
  unfold subC subS
  rw [lower_S hx, lower_S hy]
  simp only [S_inj, List.cons.injEq, and_true]
theorem price_subC {x y : Nat} (hx : 33 ≤ x ∧ x ≤ 126) (hy : 33 ≤ y ∧ y ≤ 126) : price (x : Int) (y : Int) = subC x y := by
  rw [subC_low hx hy]
  unfold price
  by_cases h : x = y
  · subst h; simp
  · have h' : ¬ (x : Int) = y := by omega
    rw [if_neg h, if_neg h']
    have : (low x = low y) ↔ ((if (x : Int) - y < 0 then -((x : Int) - y) else (x : Int) - y) = 32 ∧ 65 ≤ (if (y : Int) < x then (y : Int) else x) ∧ (if (y : Int) < x then (y : Int) else x) ≤ 90) := by
      unfold low
      constructor
      · intro q
        split at q <;> split at q <;> (refine ⟨?_, ?_, ?_⟩ <;> split <;> omega)
      · rintro ⟨a, b, c⟩
        split at a <;> split at b <;> split at c <;> split <;> split <;> omega
    by_cases q : low x = low y
    · rw [if_pos q, if_pos (this.mp q)]
    · rw [if_neg q, if_neg fun r => q (this.mpr r)]
theorem low_two {x y z : Nat} (hx : 33 ≤ x ∧ x ≤ 126) (hy : 33 ≤ y ∧ y ≤ 126) (hz : 33 ≤ z ∧ z ≤ 126) (h1 : subC x y = 1) (h2 : subC x z = 1) : y = z := by
  rw [subC_low hx hy] at h1
  rw [subC_low hx hz] at h2
  have a1 : x ≠ y := fun q => by rw [if_pos q] at h1; cases h1
  have a2 : x ≠ z := fun q => by rw [if_pos q] at h2; cases h2
  rw [if_neg a1] at h1
  rw [if_neg a2] at h2
  have b1 : low x = low y := by
    by_cases q : low x = low y
    · exact q
    · rw [if_neg q] at h1; cases h1
  have b2 : low x = low z := by
    by_cases q : low x = low z
    · exact q
    · rw [if_neg q] at h2; cases h2
  unfold low at b1 b2
  split at b1 <;> split at b1 <;> split at b2 <;> split at b2 <;> omega
theorem subC_self (x : Nat) : subC x x = 0 := by simp [subC, subS]
theorem subC_comm (x y : Nat) : subC x y = subC y x := by
  unfold subC subS
  by_cases h : S [x] = S [y]
  · rw [if_pos h, if_pos h.symm]
  · rw [if_neg h, if_neg (Ne.symm h)]
    by_cases q : Txt.lower (S [x]) = Txt.lower (S [y])
    · rw [if_pos q, if_pos q.symm]
    · rw [if_neg q, if_neg (Ne.symm q)]
theorem subC_ne {x y : Nat} (h : x ≠ y) : subC x y = if subC x y = 1 then 1 else 2 := by
  unfold subC subS
  have : ¬ S [x] = S [y] := fun q => h (by simpa using S_inj.mp q)
  rw [if_neg this]
  by_cases q : Txt.lower (S [x]) = Txt.lower (S [y])
  · simp [q]
  · simp [q]

noncomputable def bitOf (p01 p02 p12 p03 p13 p23 : Bool) (x y : Nat) : Bool :=
  match x, y with
  | 0, 1 => p01 | 1, 0 => p01 | 0, 2 => p02 | 2, 0 => p02 | 1, 2 => p12 | 2, 1 => p12
  | 0, 3 => p03 | 3, 0 => p03 | 1, 3 => p13 | 3, 1 => p13 | 2, 3 => p23 | 3, 2 => p23 | _, _ => false
noncomputable def subB (p01 p02 p12 p03 p13 p23 : Bool) (x y : Nat) : Int := if x = y then 0 else if bitOf p01 p02 p12 p03 p13 p23 x y then 1 else 2
noncomputable def wB (e01 e02 e12 e03 e13 e23 : Bool) : List Nat := [0, bif e01 then 0 else 1, bif e02 then 0 else bif e12 then 1 else 2, bif e03 then 0 else bif e13 then 1 else bif e23 then 2 else 3]
noncomputable def tri (a b c : Bool) : Bool := !((a && b && !c) || (a && c && !b) || (b && c && !a))
noncomputable def consE (e01 e02 e12 e03 e13 e23 : Bool) : Bool := tri e01 e12 e02 && tri e01 e13 e03 && tri e02 e23 e03 && tri e12 e23 e13
noncomputable def has (p : Bool) (w : List Nat) (i j : Nat) : Bool := !p || (w.contains i && w.contains j)
noncomputable def consP (w : List Nat) (p01 p02 p12 p03 p13 p23 : Bool) : Bool :=
  has p01 w 0 1 && has p02 w 0 2 && has p12 w 1 2 && has p03 w 0 3 && has p13 w 1 3 && has p23 w 2 3 &&
  !(p01 && p02) && !(p01 && p03) && !(p02 && p03) && !(p01 && p12) && !(p01 && p13) && !(p12 && p13) &&
  !(p02 && p12) && !(p02 && p23) && !(p12 && p23) && !(p03 && p13) && !(p03 && p23) && !(p13 && p23)

noncomputable def ps0 : List (List Nat) := [[0, 1, 2, 3], [0, 1, 2], [0, 1, 3], [0, 2, 3], [1, 2, 3], [0, 1], [0, 2], [1, 2], [0, 3], [1, 3], [2, 3], [0], [1], [2], [3], []]
noncomputable def nu0 : List Int := [1, -1, -1, -1, -1, 1, 1, 1, 1, 1, 1, -1, -1, -1, -1, 1]
theorem cp0 : checkP [0, 1, 2, 3] ps0 = true := by decide +kernel
noncomputable def ps1 : List (List Nat) := [[0, 1, 2, 2], [0, 1, 2], [0, 2, 2], [1, 2, 2], [0, 1], [0, 2], [1, 2], [2, 2], [0], [1], [2], []]
noncomputable def nu1 : List Int := [1, -1, -1, -1, 0, 1, 1, 1, 0, 0, -1, 0]
theorem cp1 : checkP [0, 1, 2, 2] ps1 = true := by decide +kernel
noncomputable def ps2 : List (List Nat) := [[0, 1, 2, 1], [0, 1, 2], [0, 1, 1], [0, 2, 1], [1, 2, 1], [0, 1], [0, 2], [1, 2], [1, 1], [2, 1], [0], [1], [2], []]
noncomputable def nu2 : List Int := [1, -1, -1, -1, -1, 2, 1, 1, 1, 1, -1, -2, -1, 1]
theorem cp2 : checkP [0, 1, 2, 1] ps2 = true := by decide +kernel
noncomputable def ps3 : List (List Nat) := [[0, 1, 2, 0], [0, 1, 2], [0, 1, 0], [0, 2, 0], [1, 2, 0], [0, 1], [0, 2], [1, 2], [0, 0], [1, 0], [2, 0], [0], [1], [2], []]
noncomputable def nu3 : List Int := [1, -1, -1, -1, -1, 1, 1, 1, 1, 1, 1, -2, -1, -1, 1]
theorem cp3 : checkP [0, 1, 2, 0] ps3 = true := by decide +kernel
noncomputable def ps4 : List (List Nat) := [[0, 1, 1, 3], [0, 1, 1], [0, 1, 3], [1, 1, 3], [0, 1], [1, 1], [0, 3], [1, 3], [0], [1], [3], []]
noncomputable def nu4 : List Int := [1, -1, -1, -1, 1, 1, 0, 1, 0, -1, 0, 0]
theorem cp4 : checkP [0, 1, 1, 3] ps4 = true := by decide +kernel
noncomputable def ps5 : List (List Nat) := [[0, 1, 1, 1], [0, 1, 1], [1, 1, 1], [0, 1], [1, 1], [0], [1], []]
noncomputable def nu5 : List Int := [1, -1, -1, 0, 1, 0, 0, 0]
theorem cp5 : checkP [0, 1, 1, 1] ps5 = true := by decide +kernel
noncomputable def ps6 : List (List Nat) := [[0, 1, 1, 0], [0, 1, 1], [0, 1, 0], [1, 1, 0], [0, 1], [1, 1], [0, 0], [1, 0], [0], [1], []]
noncomputable def nu6 : List Int := [1, -1, -1, -1, 1, 1, 0, 1, 0, -1, 0]
theorem cp6 : checkP [0, 1, 1, 0] ps6 = true := by decide +kernel
noncomputable def ps7 : List (List Nat) := [[0, 1, 0, 3], [0, 1, 0], [0, 1, 3], [0, 0, 3], [1, 0, 3], [0, 1], [0, 0], [1, 0], [0, 3], [1, 3], [0], [1], [3], []]
noncomputable def nu7 : List Int := [1, -1, -1, -1, -1, 1, 1, 1, 2, 1, -2, -1, -1, 1]
theorem cp7 : checkP [0, 1, 0, 3] ps7 = true := by decide +kernel
noncomputable def ps8 : List (List Nat) := [[0, 1, 0, 1], [0, 1, 0], [0, 1, 1], [0, 0, 1], [1, 0, 1], [0, 1], [0, 0], [1, 0], [1, 1], [0], [1], []]
noncomputable def nu8 : List Int := [1, -1, -1, -1, -1, 3, 1, 1, 1, -2, -2, 1]
theorem cp8 : checkP [0, 1, 0, 1] ps8 = true := by decide +kernel
noncomputable def ps9 : List (List Nat) := [[0, 1, 0, 0], [0, 1, 0], [0, 0, 0], [1, 0, 0], [0, 1], [0, 0], [1, 0], [0], [1], []]
noncomputable def nu9 : List Int := [1, -1, -1, -1, 0, 2, 1, -1, 0, 0]
theorem cp9 : checkP [0, 1, 0, 0] ps9 = true := by decide +kernel
noncomputable def ps10 : List (List Nat) := [[0, 0, 2, 3], [0, 0, 2], [0, 0, 3], [0, 2, 3], [0, 0], [0, 2], [0, 3], [2, 3], [0], [2], [3], []]
noncomputable def nu10 : List Int := [1, -1, -1, -1, 1, 1, 1, 0, -1, 0, 0, 0]
theorem cp10 : checkP [0, 0, 2, 3] ps10 = true := by decide +kernel
noncomputable def ps11 : List (List Nat) := [[0, 0, 2, 2], [0, 0, 2], [0, 2, 2], [0, 0], [0, 2], [2, 2], [0], [2], []]
noncomputable def nu11 : List Int := [1, -1, -1, 0, 1, 0, 0, 0, 0]
theorem cp11 : checkP [0, 0, 2, 2] ps11 = true := by decide +kernel
noncomputable def ps12 : List (List Nat) := [[0, 0, 2, 0], [0, 0, 2], [0, 0, 0], [0, 2, 0], [0, 0], [0, 2], [2, 0], [0], [2], []]
noncomputable def nu12 : List Int := [1, -1, -1, -1, 2, 1, 0, -1, 0, 0]
theorem cp12 : checkP [0, 0, 2, 0] ps12 = true := by decide +kernel
noncomputable def ps13 : List (List Nat) := [[0, 0, 0, 3], [0, 0, 0], [0, 0, 3], [0, 0], [0, 3], [0], [3], []]
noncomputable def nu13 : List Int := [1, -1, -1, 1, 0, 0, 0, 0]
theorem cp13 : checkP [0, 0, 0, 3] ps13 = true := by decide +kernel
noncomputable def ps14 : List (List Nat) := [[0, 0, 0, 0], [0, 0, 0], [0, 0], [0], []]
noncomputable def nu14 : List Int := [1, -1, 0, 0, 0]
theorem cp14 : checkP [0, 0, 0, 0] ps14 = true := by decide +kernel
theorem ck0 : CheckOk (subB false false false false false false) [0, 1, 2, 3] ps0 nu0 := ⟨by decide +kernel, cp0, by decide +kernel⟩
theorem ck1 : CheckOk (subB false false false false false true) [0, 1, 2, 3] ps0 nu0 := ⟨by decide +kernel, cp0, by decide +kernel⟩
theorem ck2 : CheckOk (subB false false false false true false) [0, 1, 2, 3] ps0 nu0 := ⟨by decide +kernel, cp0, by decide +kernel⟩
theorem ck3 : CheckOk (subB false false false true false false) [0, 1, 2, 3] ps0 nu0 := ⟨by decide +kernel, cp0, by decide +kernel⟩
theorem ck4 : CheckOk (subB false false true false false false) [0, 1, 2, 3] ps0 nu0 := ⟨by decide +kernel, cp0, by decide +kernel⟩
theorem ck5 : CheckOk (subB false false true true false false) [0, 1, 2, 3] ps0 nu0 := ⟨by decide +kernel, cp0, by decide +kernel⟩
theorem ck6 : CheckOk (subB false true false false false false) [0, 1, 2, 3] ps0 nu0 := ⟨by decide +kernel, cp0, by decide +kernel⟩
theorem ck7 : CheckOk (subB false true false false true false) [0, 1, 2, 3] ps0 nu0 := ⟨by decide +kernel, cp0, by decide +kernel⟩
theorem ck8 : CheckOk (subB true false false false false false) [0, 1, 2, 3] ps0 nu0 := ⟨by decide +kernel, cp0, by decide +kernel⟩
theorem ck9 : CheckOk (subB true false false false false true) [0, 1, 2, 3] ps0 nu0 := ⟨by decide +kernel, cp0, by decide +kernel⟩
theorem ck10 : CheckOk (subB false false false false false false) [0, 1, 2, 2] ps1 nu1 := ⟨by decide +kernel, cp1, by decide +kernel⟩
theorem ck11 : CheckOk (subB false false true false false false) [0, 1, 2, 2] ps1 nu1 := ⟨by decide +kernel, cp1, by decide +kernel⟩
theorem ck12 : CheckOk (subB false true false false false false) [0, 1, 2, 2] ps1 nu1 := ⟨by decide +kernel, cp1, by decide +kernel⟩
theorem ck13 : CheckOk (subB true false false false false false) [0, 1, 2, 2] ps1 nu1 := ⟨by decide +kernel, cp1, by decide +kernel⟩
theorem ck14 : CheckOk (subB false false false false false false) [0, 1, 2, 1] ps2 nu2 := ⟨by decide +kernel, cp2, by decide +kernel⟩
theorem ck15 : CheckOk (subB false false true false false false) [0, 1, 2, 1] ps2 nu2 := ⟨by decide +kernel, cp2, by decide +kernel⟩
theorem ck16 : CheckOk (subB false true false false false false) [0, 1, 2, 1] ps2 nu2 := ⟨by decide +kernel, cp2, by decide +kernel⟩
theorem ck17 : CheckOk (subB true false false false false false) [0, 1, 2, 1] ps2 nu2 := ⟨by decide +kernel, cp2, by decide +kernel⟩
theorem ck18 : CheckOk (subB false false false false false false) [0, 1, 2, 0] ps3 nu3 := ⟨by decide +kernel, cp3, by decide +kernel⟩
theorem ck19 : CheckOk (subB false false true false false false) [0, 1, 2, 0] ps3 nu3 := ⟨by decide +kernel, cp3, by decide +kernel⟩
theorem ck20 : CheckOk (subB false true false false false false) [0, 1, 2, 0] ps3 nu3 := ⟨by decide +kernel, cp3, by decide +kernel⟩
theorem ck21 : CheckOk (subB true false false false false false) [0, 1, 2, 0] ps3 nu3 := ⟨by decide +kernel, cp3, by decide +kernel⟩
theorem ck22 : CheckOk (subB false false false false false false) [0, 1, 1, 3] ps4 nu4 := ⟨by decide +kernel, cp4, by decide +kernel⟩
theorem ck23 : CheckOk (subB false false false false true false) [0, 1, 1, 3] ps4 nu4 := ⟨by decide +kernel, cp4, by decide +kernel⟩
theorem ck24 : CheckOk (subB false false false true false false) [0, 1, 1, 3] ps4 nu4 := ⟨by decide +kernel, cp4, by decide +kernel⟩
theorem ck25 : CheckOk (subB true false false false false false) [0, 1, 1, 3] ps4 nu4 := ⟨by decide +kernel, cp4, by decide +kernel⟩
theorem ck26 : CheckOk (subB false false false false false false) [0, 1, 1, 1] ps5 nu5 := ⟨by decide +kernel, cp5, by decide +kernel⟩
theorem ck27 : CheckOk (subB true false false false false false) [0, 1, 1, 1] ps5 nu5 := ⟨by decide +kernel, cp5, by decide +kernel⟩
theorem ck28 : CheckOk (subB false false false false false false) [0, 1, 1, 0] ps6 nu6 := ⟨by decide +kernel, cp6, by decide +kernel⟩
theorem ck29 : CheckOk (subB true false false false false false) [0, 1, 1, 0] ps6 nu6 := ⟨by decide +kernel, cp6, by decide +kernel⟩
theorem ck30 : CheckOk (subB false false false false false false) [0, 1, 0, 3] ps7 nu7 := ⟨by decide +kernel, cp7, by decide +kernel⟩
theorem ck31 : CheckOk (subB false false false false true false) [0, 1, 0, 3] ps7 nu7 := ⟨by decide +kernel, cp7, by decide +kernel⟩
theorem ck32 : CheckOk (subB false false false true false false) [0, 1, 0, 3] ps7 nu7 := ⟨by decide +kernel, cp7, by decide +kernel⟩
theorem ck33 : CheckOk (subB true false false false false false) [0, 1, 0, 3] ps7 nu7 := ⟨by decide +kernel, cp7, by decide +kernel⟩
theorem ck34 : CheckOk (subB false false false false false false) [0, 1, 0, 1] ps8 nu8 := ⟨by decide +kernel, cp8, by decide +kernel⟩
theorem ck35 : CheckOk (subB true false false false false false) [0, 1, 0, 1] ps8 nu8 := ⟨by decide +kernel, cp8, by decide +kernel⟩
theorem ck36 : CheckOk (subB false false false false false false) [0, 1, 0, 0] ps9 nu9 := ⟨by decide +kernel, cp9, by decide +kernel⟩
theorem ck37 : CheckOk (subB true false false false false false) [0, 1, 0, 0] ps9 nu9 := ⟨by decide +kernel, cp9, by decide +kernel⟩
theorem ck38 : CheckOk (subB false false false false false false) [0, 0, 2, 3] ps10 nu10 := ⟨by decide +kernel, cp10, by decide +kernel⟩
theorem ck39 : CheckOk (subB false false false false false true) [0, 0, 2, 3] ps10 nu10 := ⟨by decide +kernel, cp10, by decide +kernel⟩
theorem ck40 : CheckOk (subB false false false true false false) [0, 0, 2, 3] ps10 nu10 := ⟨by decide +kernel, cp10, by decide +kernel⟩
theorem ck41 : CheckOk (subB false true false false false false) [0, 0, 2, 3] ps10 nu10 := ⟨by decide +kernel, cp10, by decide +kernel⟩
theorem ck42 : CheckOk (subB false false false false false false) [0, 0, 2, 2] ps11 nu11 := ⟨by decide +kernel, cp11, by decide +kernel⟩
theorem ck43 : CheckOk (subB false true false false false false) [0, 0, 2, 2] ps11 nu11 := ⟨by decide +kernel, cp11, by decide +kernel⟩
theorem ck44 : CheckOk (subB false false false false false false) [0, 0, 2, 0] ps12 nu12 := ⟨by decide +kernel, cp12, by decide +kernel⟩
theorem ck45 : CheckOk (subB false true false false false false) [0, 0, 2, 0] ps12 nu12 := ⟨by decide +kernel, cp12, by decide +kernel⟩
theorem ck46 : CheckOk (subB false false false false false false) [0, 0, 0, 3] ps13 nu13 := ⟨by decide +kernel, cp13, by decide +kernel⟩
theorem ck47 : CheckOk (subB false false false true false false) [0, 0, 0, 3] ps13 nu13 := ⟨by decide +kernel, cp13, by decide +kernel⟩
theorem ck48 : CheckOk (subB false false false false false false) [0, 0, 0, 0] ps14 nu14 := ⟨by decide +kernel, cp14, by decide +kernel⟩
noncomputable def pats : List (List Nat × List Bool) := [([0, 1, 2, 3], [false, false, false, false, false, false]),
  ([0, 1, 2, 3], [false, false, false, false, false, true]),
  ([0, 1, 2, 3], [false, false, false, false, true, false]),
  ([0, 1, 2, 3], [false, false, false, true, false, false]),
  ([0, 1, 2, 3], [false, false, true, false, false, false]),
  ([0, 1, 2, 3], [false, false, true, true, false, false]),
  ([0, 1, 2, 3], [false, true, false, false, false, false]),
  ([0, 1, 2, 3], [false, true, false, false, true, false]),
  ([0, 1, 2, 3], [true, false, false, false, false, false]),
  ([0, 1, 2, 3], [true, false, false, false, false, true]),
  ([0, 1, 2, 2], [false, false, false, false, false, false]),
  ([0, 1, 2, 2], [false, false, true, false, false, false]),
  ([0, 1, 2, 2], [false, true, false, false, false, false]),
  ([0, 1, 2, 2], [true, false, false, false, false, false]),
  ([0, 1, 2, 1], [false, false, false, false, false, false]),
  ([0, 1, 2, 1], [false, false, true, false, false, false]),
  ([0, 1, 2, 1], [false, true, false, false, false, false]),
  ([0, 1, 2, 1], [true, false, false, false, false, false]),
  ([0, 1, 2, 0], [false, false, false, false, false, false]),
  ([0, 1, 2, 0], [false, false, true, false, false, false]),
  ([0, 1, 2, 0], [false, true, false, false, false, false]),
  ([0, 1, 2, 0], [true, false, false, false, false, false]),
  ([0, 1, 1, 3], [false, false, false, false, false, false]),
  ([0, 1, 1, 3], [false, false, false, false, true, false]),
  ([0, 1, 1, 3], [false, false, false, true, false, false]),
  ([0, 1, 1, 3], [true, false, false, false, false, false]),
  ([0, 1, 1, 1], [false, false, false, false, false, false]),
  ([0, 1, 1, 1], [true, false, false, false, false, false]),
  ([0, 1, 1, 0], [false, false, false, false, false, false]),
  ([0, 1, 1, 0], [true, false, false, false, false, false]),
  ([0, 1, 0, 3], [false, false, false, false, false, false]),
  ([0, 1, 0, 3], [false, false, false, false, true, false]),
  ([0, 1, 0, 3], [false, false, false, true, false, false]),
  ([0, 1, 0, 3], [true, false, false, false, false, false]),
  ([0, 1, 0, 1], [false, false, false, false, false, false]),
  ([0, 1, 0, 1], [true, false, false, false, false, false]),
  ([0, 1, 0, 0], [false, false, false, false, false, false]),
  ([0, 1, 0, 0], [true, false, false, false, false, false]),
  ([0, 0, 2, 3], [false, false, false, false, false, false]),
  ([0, 0, 2, 3], [false, false, false, false, false, true]),
  ([0, 0, 2, 3], [false, false, false, true, false, false]),
  ([0, 0, 2, 3], [false, true, false, false, false, false]),
  ([0, 0, 2, 2], [false, false, false, false, false, false]),
  ([0, 0, 2, 2], [false, true, false, false, false, false]),
  ([0, 0, 2, 0], [false, false, false, false, false, false]),
  ([0, 0, 2, 0], [false, true, false, false, false, false]),
  ([0, 0, 0, 3], [false, false, false, false, false, false]),
  ([0, 0, 0, 3], [false, false, false, true, false, false]),
  ([0, 0, 0, 0], [false, false, false, false, false, false])]
theorem pats_ok : ∀ q ∈ pats, ∃ ps nums, CheckOk (subB (q.2.getD 0 false) (q.2.getD 1 false) (q.2.getD 2 false) (q.2.getD 3 false) (q.2.getD 4 false) (q.2.getD 5 false)) q.1 ps nums :=
  List.forall_mem_cons.mpr ⟨⟨_, _, ck0⟩, List.forall_mem_cons.mpr ⟨⟨_, _, ck1⟩, List.forall_mem_cons.mpr ⟨⟨_, _, ck2⟩, List.forall_mem_cons.mpr ⟨⟨_, _, ck3⟩, List.forall_mem_cons.mpr ⟨⟨_, _, ck4⟩, List.forall_mem_cons.mpr ⟨⟨_, _, ck5⟩, List.forall_mem_cons.mpr ⟨⟨_, _, ck6⟩, List.forall_mem_cons.mpr ⟨⟨_, _, ck7⟩, List.forall_mem_cons.mpr ⟨⟨_, _, ck8⟩, List.forall_mem_cons.mpr ⟨⟨_, _, ck9⟩, List.forall_mem_cons.mpr ⟨⟨_, _, ck10⟩, List.forall_mem_cons.mpr ⟨⟨_, _, ck11⟩, List.forall_mem_cons.mpr ⟨⟨_, _, ck12⟩, List.forall_mem_cons.mpr ⟨⟨_, _, ck13⟩, List.forall_mem_cons.mpr ⟨⟨_, _, ck14⟩, List.forall_mem_cons.mpr ⟨⟨_, _, ck15⟩, List.forall_mem_cons.mpr ⟨⟨_, _, ck16⟩, List.forall_mem_cons.mpr ⟨⟨_, _, ck17⟩, List.forall_mem_cons.mpr ⟨⟨_, _, ck18⟩, List.forall_mem_cons.mpr ⟨⟨_, _, ck19⟩, List.forall_mem_cons.mpr ⟨⟨_, _, ck20⟩, List.forall_mem_cons.mpr ⟨⟨_, _, ck21⟩, List.forall_mem_cons.mpr ⟨⟨_, _, ck22⟩, List.forall_mem_cons.mpr ⟨⟨_, _, ck23⟩, List.forall_mem_cons.mpr ⟨⟨_, _, ck24⟩, List.forall_mem_cons.mpr ⟨⟨_, _, ck25⟩, List.forall_mem_cons.mpr ⟨⟨_, _, ck26⟩, List.forall_mem_cons.mpr ⟨⟨_, _, ck27⟩, List.forall_mem_cons.mpr ⟨⟨_, _, ck28⟩, List.forall_mem_cons.mpr ⟨⟨_, _, ck29⟩, List.forall_mem_cons.mpr ⟨⟨_, _, ck30⟩, List.forall_mem_cons.mpr ⟨⟨_, _, ck31⟩, List.forall_mem_cons.mpr ⟨⟨_, _, ck32⟩, List.forall_mem_cons.mpr ⟨⟨_, _, ck33⟩, List.forall_mem_cons.mpr ⟨⟨_, _, ck34⟩, List.forall_mem_cons.mpr ⟨⟨_, _, ck35⟩, List.forall_mem_cons.mpr ⟨⟨_, _, ck36⟩, List.forall_mem_cons.mpr ⟨⟨_, _, ck37⟩, List.forall_mem_cons.mpr ⟨⟨_, _, ck38⟩, List.forall_mem_cons.mpr ⟨⟨_, _, ck39⟩, List.forall_mem_cons.mpr ⟨⟨_, _, ck40⟩, List.forall_mem_cons.mpr ⟨⟨_, _, ck41⟩, List.forall_mem_cons.mpr ⟨⟨_, _, ck42⟩, List.forall_mem_cons.mpr ⟨⟨_, _, ck43⟩, List.forall_mem_cons.mpr ⟨⟨_, _, ck44⟩, List.forall_mem_cons.mpr ⟨⟨_, _, ck45⟩, List.forall_mem_cons.mpr ⟨⟨_, _, ck46⟩, List.forall_mem_cons.mpr ⟨⟨_, _, ck47⟩, List.forall_mem_cons.mpr ⟨⟨_, _, ck48⟩, fun _ h => nomatch h⟩⟩⟩⟩⟩⟩⟩⟩⟩⟩⟩⟩⟩⟩⟩⟩⟩⟩⟩⟩⟩⟩⟩⟩⟩⟩⟩⟩⟩⟩⟩⟩⟩⟩⟩⟩⟩⟩⟩⟩⟩⟩⟩⟩⟩⟩⟩⟩⟩
theorem pats_all : ∀ e01 e02 e12 e03 e13 e23 : Bool, consE e01 e02 e12 e03 e13 e23 = true → ∀ p01 p02 p12 p03 p13 p23 : Bool, consP (wB e01 e02 e12 e03 e13 e23) p01 p02 p12 p03 p13 p23 = true → pats.contains (wB e01 e02 e12 e03 e13 e23, [p01, p02, p12, p03, p13, p23]) = true := by decide +kernel

theorem tri_eq (x y z : Nat) : tri (decide (x = y)) (decide (y = z)) (decide (x = z)) = true := by
  unfold tri
  by_cases h1 : x = y <;> by_cases h2 : y = z <;> by_cases h3 : x = z <;> simp_all
theorem wB_le (e01 e02 e12 e03 e13 e23 : Bool) : ∀ x ∈ wB e01 e02 e12 e03 e13 e23, x ≤ 3 := by
  revert e01 e02 e12 e03 e13 e23; decide +kernel
theorem wB_first : ∀ e01 e02 e12 e03 e13 e23 : Bool, consE e01 e02 e12 e03 e13 e23 = true → ((e01 = true → ¬ 1 ∈ wB e01 e02 e12 e03 e13 e23) ∧ (e02 = true → ¬ 2 ∈ wB e01 e02 e12 e03 e13 e23) ∧ (e12 = true → ¬ 2 ∈ wB e01 e02 e12 e03 e13 e23) ∧ (e03 = true → ¬ 3 ∈ wB e01 e02 e12 e03 e13 e23) ∧ (e13 = true → ¬ 3 ∈ wB e01 e02 e12 e03 e13 e23) ∧ (e23 = true → ¬ 3 ∈ wB e01 e02 e12 e03 e13 e23)) := by decide +kernel

theorem lawOk {codes : List Nat} (h4 : codes.length = 4) (hc : ∀ c ∈ codes, 33 ≤ c ∧ c ≤ 126) : LawOk codes := by
  match codes, h4 with
  | [a, b, c, d], _ =>
  obtain ⟨f, hf⟩ : ∃ f : Nat → Nat, f = fun j => [a, b, c, d].getD j 0 := ⟨_, rfl⟩
  have f0 : f 0 = a := by rw [hf]; rfl
  have f1 : f 1 = b := by rw [hf]; rfl
  have f2 : f 2 = c := by rw [hf]; rfl
  have f3 : f 3 = d := by rw [hf]; rfl
  have hfr : ∀ j, j ≤ 3 → 33 ≤ f j ∧ f j ≤ 126 := fun j hj => by
    have : j = 0 ∨ j = 1 ∨ j = 2 ∨ j = 3 := by omega
    rcases this with rfl | rfl | rfl | rfl
    · rw [f0]; exact hc a (by simp)
    · rw [f1]; exact hc b (by simp)
    · rw [f2]; exact hc c (by simp)
    · rw [f3]; exact hc d (by simp)
  have hE : consE (decide (a = b)) (decide (a = c)) (decide (b = c)) (decide (a = d)) (decide (b = d)) (decide (c = d)) = true := by
    unfold consE
    rw [tri_eq, tri_eq, tri_eq, tri_eq]; rfl
  obtain ⟨w, hw⟩ : ∃ w, w = wB (decide (a = b)) (decide (a = c)) (decide (b = c)) (decide (a = d)) (decide (b = d)) (decide (c = d)) := ⟨_, rfl⟩
  have hle : ∀ x ∈ w, x ≤ 3 := by rw [hw]; exact wB_le _ _ _ _ _ _
  have hfst := wB_first _ _ _ _ _ _ hE
  rw [← hw] at hfst
  obtain ⟨q01, q02, q12, q03, q13, q23⟩ := hfst
  have key : ∀ i j, i < j → j ∈ w → f i ≠ f j := fun i j hij hj he => by
    have hj3 := hle j hj
    have : (i = 0 ∧ j = 1) ∨ (i = 0 ∧ j = 2) ∨ (i = 1 ∧ j = 2) ∨ (i = 0 ∧ j = 3) ∨ (i = 1 ∧ j = 3) ∨ (i = 2 ∧ j = 3) := by omega
    rcases this with ⟨rfl, rfl⟩ | ⟨rfl, rfl⟩ | ⟨rfl, rfl⟩ | ⟨rfl, rfl⟩ | ⟨rfl, rfl⟩ | ⟨rfl, rfl⟩
    · rw [f0, f1] at he; exact q01 (decide_eq_true he) hj
    · rw [f0, f2] at he; exact q02 (decide_eq_true he) hj
    · rw [f1, f2] at he; exact q12 (decide_eq_true he) hj
    · rw [f0, f3] at he; exact q03 (decide_eq_true he) hj
    · rw [f1, f3] at he; exact q13 (decide_eq_true he) hj
    · rw [f2, f3] at he; exact q23 (decide_eq_true he) hj
  have inj : ∀ i j, i ∈ w → j ∈ w → f i = f j → i = j := fun i j hi hj he => by
    rcases Nat.lt_trichotomy i j with h | h | h
    · exact absurd he (key i j h hj)
    · exact h
    · exact absurd he.symm (key j i h hi)
  have hmap : w.map f = [a, b, c, d] := by
    rw [hw]
    unfold wB
    have pk : ∀ {x y i j : Nat}, f i = x → f j = y → f (bif decide (x = y) then i else j) = y := fun {x y i j} h1 h2 => by
      by_cases e : x = y
      · rw [decide_eq_true e]; exact h1.trans e
      · rw [decide_eq_false e]; exact h2
    simp only [List.map_cons, List.map_nil, f0, pk f0 f1, pk f0 (pk f1 f2), pk f0 (pk f1 (pk f2 f3))]
  have hwl : w.length = 4 := by rw [hw]; rfl
  obtain ⟨P, hP⟩ : ∃ P : Nat → Nat → Bool, P = fun i j => decide (subC (f i) (f j) = 1) && (w.contains i && w.contains j) := ⟨_, rfl⟩
  have hPt : ∀ i j, P i j = true → subC (f i) (f j) = 1 ∧ i ∈ w ∧ j ∈ w := fun i j h => by
    rw [hP] at h
    simp only [Bool.and_eq_true, decide_eq_true_eq, List.contains_iff_mem] at h
    exact h
  have no : ∀ x y : Bool, (x = true → y = true → False) → (!(x && y)) = true := fun x y h => by
    cases x <;> cases y
    · rfl
    · rfl
    · rfl
    · exact (h rfl rfl).elim
  have two : ∀ i j k, i ∈ w → j ∈ w → k ∈ w → subC (f i) (f j) = 1 → subC (f i) (f k) = 1 → j = k := fun i j k hi hj hk h1 h2 => inj j k hj hk (low_two (hfr i (hle i hi)) (hfr j (hle j hj)) (hfr k (hle k hk)) h1 h2)
  have x1 : ∀ i j k, j ≠ k → (!(P i j && P i k)) = true := fun i j k hne => no _ _ fun h1 h2 => by
    have a1 := hPt i j h1
    have a2 := hPt i k h2
    exact hne (two i j k a1.2.1 a1.2.2 a2.2.2 a1.1 a2.1)
  have x2 : ∀ i j k, i ≠ k → (!(P i j && P j k)) = true := fun i j k hne => no _ _ fun h1 h2 => by
    have a1 := hPt i j h1
    have a2 := hPt j k h2
    exact hne (two j i k a1.2.2 a1.2.1 a2.2.2 (by rw [subC_comm]; exact a1.1) a2.1)
  have x3 : ∀ i j k, i ≠ j → (!(P i k && P j k)) = true := fun i j k hne => no _ _ fun h1 h2 => by
    have a1 := hPt i k h1
    have a2 := hPt j k h2
    exact hne (two k i j a1.2.2 a1.2.1 a2.2.1 (by rw [subC_comm]; exact a1.1) (by rw [subC_comm]; exact a2.1))
  have hh : ∀ i j, has (P i j) w i j = true := fun i j => by
    unfold has
    rw [hP]
    simp only
    cases decide (subC (f i) (f j) = 1) <;> cases w.contains i <;> cases w.contains j <;> rfl
  have hcons : consP w (P 0 1) (P 0 2) (P 1 2) (P 0 3) (P 1 3) (P 2 3) = true := by
    unfold consP
    rw [hh, hh, hh, hh, hh, hh, x1 0 1 2 (by omega), x1 0 1 3 (by omega), x1 0 2 3 (by omega), x2 0 1 2 (by omega), x2 0 1 3 (by omega), x1 1 2 3 (by omega), x3 0 1 2 (by omega), x2 0 2 3 (by omega), x2 1 2 3 (by omega), x3 0 1 3 (by omega), x3 0 2 3 (by omega), x3 1 2 3 (by omega)]
    rfl
  have hall := pats_all _ _ _ _ _ _ hE (P 0 1) (P 0 2) (P 1 2) (P 0 3) (P 1 3) (P 2 3) (by rw [← hw]; exact hcons)
  rw [← hw] at hall
  obtain ⟨ps, nums, hck⟩ := pats_ok _ (List.contains_iff_mem.mp hall)
  have hck' : CheckOk (subB (P 0 1) (P 0 2) (P 1 2) (P 0 3) (P 1 3) (P 2 3)) w ps nums := hck
  have val : ∀ i j, i ∈ w → j ∈ w → i ≠ j → subC (f i) (f j) = if P i j = true then 1 else 2 := fun i j hi hj hne => by
    have hv : f i ≠ f j := fun q => hne (inj i j hi hj q)
    have e : P i j = decide (subC (f i) (f j) = 1) := by
      rw [hP]
      simp only
      rw [List.contains_iff_mem.mpr hi, List.contains_iff_mem.mpr hj]
      simp
    rw [e, subC_ne hv]
    by_cases q : subC (f i) (f j) = 1 <;> simp [q]
  have hsub : ∀ i j, i ∈ w → j ∈ w → subC (f i) (f j) = subB (P 0 1) (P 0 2) (P 1 2) (P 0 3) (P 1 3) (P 2 3) i j := fun i j hi hj => by
    have hi3 := hle i hi
    have hj3 := hle j hj
    by_cases hij : i = j
    · subst hij; rw [subC_self, subB, if_pos rfl]
    · unfold subB
      rw [if_neg hij]
      have : (i = 0 ∧ j = 1) ∨ (i = 0 ∧ j = 2) ∨ (i = 1 ∧ j = 2) ∨ (i = 0 ∧ j = 3) ∨ (i = 1 ∧ j = 3) ∨ (i = 2 ∧ j = 3) ∨ (i = 1 ∧ j = 0) ∨ (i = 2 ∧ j = 0) ∨ (i = 2 ∧ j = 1) ∨ (i = 3 ∧ j = 0) ∨ (i = 3 ∧ j = 1) ∨ (i = 3 ∧ j = 2) := by omega
      rcases this with ⟨rfl, rfl⟩ | ⟨rfl, rfl⟩ | ⟨rfl, rfl⟩ | ⟨rfl, rfl⟩ | ⟨rfl, rfl⟩ | ⟨rfl, rfl⟩ | ⟨rfl, rfl⟩ | ⟨rfl, rfl⟩ | ⟨rfl, rfl⟩ | ⟨rfl, rfl⟩ | ⟨rfl, rfl⟩ | ⟨rfl, rfl⟩
      · exact val 0 1 hi hj hij
      · exact val 0 2 hi hj hij
      · exact val 1 2 hi hj hij
      · exact val 0 3 hi hj hij
      · exact val 1 3 hi hj hij
      · exact val 2 3 hi hj hij
      · rw [subC_comm]; exact val 0 1 hj hi (Ne.symm hij)
      · rw [subC_comm]; exact val 0 2 hj hi (Ne.symm hij)
      · rw [subC_comm]; exact val 1 2 hj hi (Ne.symm hij)
      · rw [subC_comm]; exact val 0 3 hj hi (Ne.symm hij)
      · rw [subC_comm]; exact val 1 3 hj hi (Ne.symm hij)
      · rw [subC_comm]; exact val 2 3 hj hi (Ne.symm hij)
  have R : Ren f (· ∈ w) subC (subB (P 0 1) (P 0 2) (P 1 2) (P 0 3) (P 1 3) (P 2 3)) := ⟨inj, hsub⟩
  rw [← hmap]
  exact law_of_check R (fun x hx => hx) hwl (by rw [hmap]; exact hc) (fun x y hx hy => by rw [price_subC (hfr x (hle x hx)) (hfr y (hle y hy))]; exact hsub x y hx hy) hck'

section
variable {W : Wd} (hW : WOk W) (hT : TOk W)
include hW hT

theorem law_a {script : List Int} (hs : script.length ≤ 63) {L a : Addr} {cd : Value} (hok : LawOk (codesOf (heapsOf script))) :
    Ex W 74 (lawEnv L a cd) [("script", .list (intPV script))] [] fnLaw.body (fun _ _ => False) (· = .bool true) := by
  have s0 := (sp_heaps hW (script := script) (by omega)).up (show 2 ≤ 74 by omega)
  refine Ex.assign (pv := .list (intPV (heapsOf script))) (FEv.N (EvTN.call (by walk_at "mine fn") (by exact (fnHeaps.ok hW).callee) (by walk_at "mine args") rfl rfl s0)) (by simp) (.inr rfl) (by walk_at "mine up") ?_
  have hHl := heapsOf_length script
  generalize heapsOf script = H at hok hHl ⊢
  have hcodes := codesOf_ok H
  have hcl := codesOf_length H
  -- codes
  have hce : (List.range 4).map (fun k => PV.int (codeAt H k)) = natPV (codesOf H) := by
    unfold codesOf natPV
    rw [List.map_map]
    apply List.map_congr_left
    intro k _
    have := codeAt_ok H k
    show PV.int (codeAt H k) = PV.int (((codeAt H k).toNat : Nat) : Int)
    congr 1
    omega
  refine Ex.assign (pv := .list (natPV (codesOf H))) (FEv.N (EvTN.eq (EvTN.compN (ks := List.range 4) (p := fun _ => true) (f := fun k => .int (codeAt H k)) rfl (EvI.rng1 (n := 4) (by walk_at "mine fn") (EvL.cons (EvTN.ev EvTN.cint) EvL.nil rfl) (by omega)) (by simp) (fun C cl hcl k hk => EvTests.nil)
    (fun C cl hcl k hk _ => ?_) (fun k _ _ => rfl)) (by rw [filter_all, hce]))) (by simp) (.inr rfl) (by walk_at "mine up") ?_
  · have hk4 : k < H.length := by rw [hHl]; have := List.mem_range.mp hk; omega
    have n3 : (3 : Int) ≠ 0 := by decide
    have n94 : (94 : Int) ≠ 0 := by decide
    have e1 : H.getD k 0 = H[k] := by simp [hk4]
    have f1 := Int.fmod_nonneg_of_pos (H[k]) (show (0 : Int) < 3 by omega)
    have f2 := Int.fmod_lt_of_pos (H[k]) (show (0 : Int) < 3 by omega)
    have hj : (4 + (H[k]).fmod 3).toNat < H.length := by omega
    have e2 : H.getD (4 + (H[k]).fmod 3).toNat 0 = H[(4 + (H[k]).fmod 3).toNat] := by simp [hj]
    unfold codeAt
    rw [e1, e2]
    have g2 : (intPV H)[(4 + (H[k]).fmod 3).toNat]? = some (.int H[(4 + (H[k]).fmod 3).toNat]) := by simp [intPV, hj]
    exact EvTN.ev (EvTN.binop (EvTN.ev EvTN.cint) (EvTN.ev (EvTN.binop (EvT.item (k := 4 + (H[k]).fmod 3) (by walk_at "mine ev") (EvTN.ev (EvTN.binop (EvTN.ev EvTN.cint) (EvTN.ev (EvTN.binop (EvT.item (k := (k : Int)) (by walk_at "mine ev") (by walk_at "mine ev") (by omega) (by omega) (intPV_get hk4) (fun _ _ => rfl)) (EvTN.ev EvTN.cint) (Op2.fmod n3))) Op2.add)) (by omega) (by omega) g2 (fun _ _ => rfl)) (EvTN.ev EvTN.cint) (Op2.fmod n94))) Op2.add)
  generalize codesOf H = codes at hok hcodes hcl ⊢
  have hfl : ∀ l : List Nat, (l.map fun d => [d]).flatten = l := fun l => by rw [flat1]; simp
  have hch : ∀ (c : Nat), c ≤ 126 → CallSp W 74 (.builtin "chr") [.int (c : Int)] (.str ⟨#[((c : Nat) : Int).toNat]⟩) := fun c hc => CallSp.chr (by omega) (by omega)
  -- word
  refine Ex.assign (pv := .str (S codes)) (FEv.N (EvTN.eq (ev_join hW (ls := codes.map fun d => [d]) (EvTN.ev (EvTN.eq (EvTN.compN (ks := codes) (p := fun _ => true) (f := fun d => strEmb [d]) rfl (EvI.list (by walk_at "mine ev")) (by omega) (fun C cl hcl k hk => EvTests.nil) (fun C cl hcl d hd _ => ?_) (fun k _ _ => rfl)) (by rw [filter_all, strPV, List.map_map]; rfl))) (by rw [sum1]; omega)) (by rw [hfl]))) (by simp) (.inr rfl) (by walk_at "mine up") ?_
  · exact EvTN.ev (EvTN.eq (EvTN.call (by walk_at "mine fn") (.inl ⟨_, rfl⟩) (by walk_at "mine args") rfl rfl (hch d (hcodes d hd).2)) rfl)
  -- every
  have s1 := (sp_choices hW (word := codes) (needed := []) hcl (by simp)).up (show 2 ≤ 74 by omega)
  refine Ex.assign (pv := .list (strPV (choicesL codes [] 16))) (FEv.N (EvTN.call (by walk_at "mine fn") (by exact (fnChoices.ok hW).callee) (EvL.cons (by walk_at "mine ev") (EvL.cons (EvTN.ev (EvTN.list (xs := natPV []) EvLN.nil (by simp [natPV, sizeLine]))) EvL.nil rfl) rfl) rfl rfl s1)) (by simp) (.inr rfl) (by walk_at "mine up") ?_
  -- texts
  have s2 := (sp_parts hW hT (codes := codes) hcodes hcl).up (show 6 ≤ 74 by omega)
  refine Ex.assign (pv := .list (strPV (partsOf codes))) (FEv.N (EvTN.call (by walk_at "mine fn") (by exact (fnParts.ok hW).callee) (by walk_at "mine args") rfl rfl s2)) (by simp) (.inl rfl) (by walk_at "mine up") ?_
  -- the parts are all there
  have hev := choices_all_length codes
  have s3 : CallSp W 74 (.builtin "sorted") [.list (strPV (partsOf codes))] (.list ((sortT ((partsOf codes).map S)).map .str)) := by
    have := CallSp.sortedStrs (W := W) (d := 74) (ss := (partsOf codes).map S) (by have := hok.len20; simp; omega)
    rw [← strPV_strs] at this; exact this
  have hfl20 : (firsts (choicesL codes [] 16)).length ≤ 20 := by rw [← hok.perm.length_eq]; exact hok.len20
  have s4 : CallSp W 74 (.builtin "sorted") [.list (strPV (firsts (choicesL codes [] 16)))] (.list ((sortT ((firsts (choicesL codes [] 16)).map S)).map .str)) := by
    have := CallSp.sortedStrs (W := W) (d := 74) (ss := (firsts (choicesL codes [] 16)).map S) (by simp; omega)
    rw [← strPV_strs] at this; exact this
  have hsame : sortT ((partsOf codes).map S) = sortT ((firsts (choicesL codes [] 16)).map S) := sortT_perm (hok.perm.map S)
  have hsok : ∀ x ∈ sortT ((partsOf codes).map S), PyData.strOk x = true := fun x hx => by
    rw [hsame] at hx
    obtain ⟨t, ht, rfl⟩ := List.mem_map.mp (sortT_mem hx)
    unfold firsts at ht
    obtain ⟨k, hk, rfl⟩ := List.mem_map.mp ht
    have hk16 : k < (choicesL codes [] 16).length := by rw [hev]; exact List.mem_range.mp (List.mem_filter.mp hk).1
    have e1 : (choicesL codes [] 16).getD k [] = (choicesL codes [] 16)[k] := by simp [hk16]
    rw [e1]
    exact strOk_S fun c hc => (hcodes c (choice_mem hcl (List.getElem_mem hk16) c hc)).2
  refine Ex.ifRet (b := false) (EvB.cast (EvB.cmp (EvTN.ev (EvTN.call (by walk_at "mine fn") (.inl ⟨_, rfl⟩) (by walk_at "mine args") rfl rfl s3)) (EvTN.ev (EvTN.call (by walk_at "mine fn") (.inl ⟨_, rfl⟩) (EvL.cons (EvTN.ev (EvTN.eq (EvTN.compN (ks := List.range 16) (p := fun k => !(((choicesL codes [] 16).take k).contains ((choicesL codes [] 16).getD k []))) (f := fun k => strEmb ((choicesL codes [] 16).getD k [])) rfl
    (EvI.rng1 (n := 16) (by walk_at "mine fn") (EvL.cons (EvTN.ev EvTN.cint) EvL.nil rfl) (by omega)) (by simp) (fun C cl hcl k hk => EvTests.one ?_) (fun C cl hcl k hk _ => ?_) (fun k _ _ => rfl)) (by rw [firsts, strPV, List.map_map]; rfl))) EvL.nil rfl) rfl rfl s4)) (Op2.neStrs hsok (hsame ▸ hsok)) rfl) (by rw [hsame]; simp)) (fun h => (by cases h)) fun _ => ?_
  · generalize choicesL codes [] 16 = ev at hev
    have hk16 : k < ev.length := by rw [hev]; exact List.mem_range.mp hk
    have e1 : ev.getD k [] = ev[k] := by simp [hk16]
    rw [e1]
    refine EvB.cast (EvB.cmp (EvT.item (k := (k : Int)) (r := .str (S ev[k])) (by walk_at "mine ev") (by walk_at "mine ev") (by omega) (by omega) (by simp [strPV, strEmb, hk16]) (fun _ _ => rfl)) (EvTN.ev (EvTN.eq (EvTN.sliceL (a := none) (b := some (k : Int)) (c := none) (by walk_at "mine ev") EvP.none (EvP.int (by walk_at "mine ev")) EvP.none (by decide) (by rw [strPV_length]; simp [sizeLine]; omega) (strPV_imm _)) ?_)) (Op2.notinStrs (ns := (ev.take k).map S)) rfl) ?_
    · rw [pickL_take (by rw [strPV_length]; omega), strPV_strs, ← List.map_take, ← List.map_take]
    · congr 1
      rw [List.any_map, List.contains_eq_any_beq]
      congr 1
      funext x
      show (S x == S ev[k]) = (ev[k] == x)
      rw [Bool.eq_iff_iff, beq_iff_eq, beq_iff_eq, S_inj]
      exact eq_comm
  · generalize choicesL codes [] 16 = ev at hev
    have hk16 : k < ev.length := by rw [hev]; exact List.mem_range.mp hk
    have e1 : ev.getD k [] = ev[k] := by simp [hk16]
    show Ev _ _ _ _ _ (.str (S (ev.getD k [])))
    rw [e1]
    exact EvT.item (k := (k : Int)) (r := .str (S ev[k])) (by walk_at "mine ev") (by walk_at "mine ev") (by omega) (by omega) (by simp [strPV, strEmb, hk16]) (fun _ _ => rfl)
  -- numbers
  have hp1 := hok.len1
  have hp20 := hok.len20
  have hp4 := hok.short
  have hnum := hok.nums
  have hwh := hok.whole
  have s5 := (sp_numbers hW hp1 hp20 (fun t ht => by have := hp4 t ht; omega)).up (show 3 ≤ 74 by omega)
  refine Ex.assign (pv := .list (intPV (numbersOf (partsOf codes)))) (FEv.N (EvTN.call (by walk_at "mine fn") (by exact (fnNumbers.ok hW).callee) (by walk_at "mine args") rfl rfl s5)) (by simp) (.inl rfl) (by walk_at "mine up") ?_
  generalize hts : partsOf codes = ts at hp1 hp20 hp4 hnum hwh ⊢
  -- like
  have hlike : ((((List.range (4 - 1)).map fun (i : Nat) => PV.int ((1 + i : Nat) : Int)).filter fun v => codes.getD (natInv v) 0 == codes.getD (natInv v - 1) 0).map fun v => v) = natPV (likeOf codes) := by
    have e : ((List.range (4 - 1)).map fun (i : Nat) => PV.int ((1 + i : Nat) : Int)) = [1, 2, 3].map natEmb := by rfl
    rw [e, List.map_id', List.filter_map]
    rfl
  refine Ex.assignComp (xs := (List.range (4 - 1)).map fun (i : Nat) => PV.int ((1 + i : Nat) : Int)) (q := fun v => codes.getD (natInv v) 0 == codes.getD (natInv v - 1) 0) (f := fun v => v) rfl (EvI.rng2 (a := 1) (b := 4) (by walk_at "mine fn") (EvL.cons (EvTN.ev EvTN.cint) (EvL.cons (EvTN.ev EvTN.cint) EvL.nil rfl) rfl) (by omega) (by omega)) (by simp [sizeLine]) (fun C cl hcl v hv => EvTests.one ?_) (fun C cl hcl v hv _ => ?_) (fun v hv _ => ?_) (by simp) (.inl rfl) (by rw [hlike]; walk_at "mine up") ?_
  · obtain ⟨i, hi, rfl⟩ := List.mem_map.mp hv
    have hi3 : i < 3 := List.mem_range.mp hi
    have k1 : 1 + i < codes.length := by omega
    have k2 : 1 + i - 1 < codes.length := by omega
    have e1 : codes.getD (1 + i) 0 = codes[1 + i] := by simp [k1]
    have e2 : codes.getD (1 + i - 1) 0 = codes[1 + i - 1] := by rw [List.getD_eq_getElem?_getD, List.getElem?_eq_getElem k2]; rfl
    refine EvB.cast (EvB.cmp (EvTN.ev (EvTN.atS (k := 1 + i) (by walk_at "mine ev") (by walk_at "mine ev") k1 (by omega) (fun _ _ => rfl))) (EvTN.ev (EvTN.atS (k := 1 + i - 1) (by walk_at "mine ev") (EvTN.ev (EvTN.eq (EvTN.binop (by walk_at "mine ev") (EvTN.ev EvTN.cint) Op2.sub) (by congr 1; omega))) k2 (by omega) (fun _ _ => rfl))) Op2.eqs rfl) ?_
    show (S [codes[1 + i]] == S [codes[1 + i - 1]]) = (codes.getD (1 + i) 0 == codes.getD (1 + i - 1) 0)
    rw [e1, e2, Bool.eq_iff_iff, beq_iff_eq, beq_iff_eq, S_inj]
    simp
  · obtain ⟨i, hi, rfl⟩ := List.mem_map.mp hv
    exact by walk_at "mine ev"
  · obtain ⟨i, hi, rfl⟩ := List.mem_map.mp hv
    rfl
  have hlkl := likeOf_length codes
  -- choices
  have s6 := (sp_choices hW (word := codes) (needed := likeOf codes) hcl (by omega)).up (show 2 ≤ 74 by omega)
  refine Ex.assign (pv := .list (strPV (choicesL codes (likeOf codes) 16))) (FEv.N (EvTN.call (by walk_at "mine fn") (by exact (fnChoices.ok hW).callee) (by walk_at "mine args") rfl rfl s6)) (by simp) (.inr rfl) (by walk_at "mine up") ?_
  have hchl := choices_length codes (likeOf codes)
  have s7 : ∀ t, CallSp W 74 (.ref 112) [.list (strPV (choicesL codes (likeOf codes) 16)), .str (S t)] (.int (countL (choicesL codes (likeOf codes) 16) t : Nat)) := fun t => (sp_count hW (t := t) (by omega)).up (show 1 ≤ 74 by omega)
  refine Ex.ifRet (b := false) (EvB.cast (EvB.cmp (a := .list (intPV (numbersOf ts))) (b := .list (intPV (ts.map (wantNum codes)))) (by walk_at "mine ev") (EvTN.ev (EvTN.eq (EvTN.compS (ks := ts) (p := fun _ => true) (f := fun t => .int (wantNum codes t)) rfl (EvI.list (by walk_at "mine ev")) (by omega) (fun C cl hcl k hk => EvTests.nil) (fun C cl hcl t ht _ => ?_) (fun k _ _ => rfl)) (by rw [filter_all, intPV, List.map_map]; rfl))) Op2.neInts rfl) (by rw [hnum]; simp)) (fun h => (by cases h)) fun _ => ?_
  · have ht4 := hp4 t ht
    have hz : (Builtin.Int.intBits (-1) : Int) * (4 - ((t.length : Nat) : Int)) ≤ 2 ^ 27 := by
      have : (Builtin.Int.intBits (-1) : Int) = 1 := by decide
      rw [this]; omega
    have e : (4 - ((t.length : Nat) : Int)).toNat = 4 - t.length := by omega
    have hb : Builtin.Int.intBits ((-1 : Int) ^ (4 - t.length)) ≤ 64 := intBits_le_iff.mpr (by
      rw [Int.natAbs_pow]
      have : (-1 : Int).natAbs ^ (4 - t.length) = 1 := by simp
      rw [this]; exact Nat.one_lt_two_pow (by omega))
    refine EvTN.ev (EvTN.eq (EvTN.binop (EvTN.ev (EvTN.binop (EvTN.ev (EvTN.unop (EvTN.ev EvTN.cint) Op1.neg)) (EvTN.ev (EvTN.binop (EvTN.ev EvTN.cint) (EvTN.ev (EvTN.call (by walk_at "mine fn") (.inl ⟨_, rfl⟩) (EvL.cons (by walk_at "mine ev") EvL.nil rfl) rfl rfl (CallSp.lenS (l := t) (by omega)))) Op2.sub)) (Op2.pow (by omega) hz))) (EvTN.ev (EvTN.call (by walk_at "mine fn") (by exact (fnCount.ok hW).callee) (by walk_at "mine args") rfl rfl (s7 t))) (Op2.mul (by rw [e]; exact .of_left hb))) ?_)
    rw [e]; rfl
  -- turned, other
  have htl : (turnOf codes).length = 4 := by simp [turnOf]; omega
  have htm : ∀ c ∈ turnOf codes, 33 ≤ c ∧ c ≤ 126 := fun c hc => by
    rcases List.mem_append.mp hc with h | h
    · exact hcodes c (List.mem_of_mem_drop h)
    · exact hcodes c (List.mem_of_mem_take h)
  have hnl : (natPV codes).length = 4 := by rw [natPV_length, hcl]
  have hd : (1 : Nat) ≤ (natPV codes).length := by omega
  refine Ex.assign (pv := .list (natPV (turnOf codes))) (FEv.N (EvTN.eq (EvTN.binop (a := .list ((natPV codes).drop 1)) (b := .list ((natPV codes).take 1)) (EvTN.ev (EvTN.eq (EvTN.sliceL (a := some ((1 : Nat) : Int)) (b := none) (c := none) (by walk_at "mine ev") (EvP.int (EvTN.ev EvTN.cint)) EvP.none EvP.none (by decide) (by rw [hnl]; simp [sizeLine]) (natPV_imm _)) (by rw [pickL_drop hd])))
    (EvTN.ev (EvTN.eq (EvTN.sliceL (a := none) (b := some ((1 : Nat) : Int)) (c := none) (by walk_at "mine ev") EvP.none (EvP.int (EvTN.ev EvTN.cint)) EvP.none (by decide) (by rw [hnl]; simp [sizeLine]) (natPV_imm _)) (by rw [pickL_take hd]))) (Op2.cat (fun x hx => natPV_imm _ x (List.mem_of_mem_drop hx)) (fun x hx => natPV_imm _ x (List.mem_of_mem_take hx)) (by simp [hnl, sizeLine]))) (by simp [turnOf, natPV]))) (by simp) (.inr rfl) (by walk_at "mine up") ?_
  refine Ex.assign (pv := .str (S (turnOf codes))) (FEv.N (EvTN.eq (ev_join hW (ls := (turnOf codes).map fun d => [d]) (EvTN.ev (EvTN.eq (EvTN.compN (ks := turnOf codes) (p := fun _ => true) (f := fun d => strEmb [d]) rfl (EvI.list (by walk_at "mine ev")) (by omega) (fun C cl hcl k hk => EvTests.nil) (fun C cl hcl d hd _ => ?_) (fun k _ _ => rfl)) (by rw [filter_all, strPV, List.map_map]; rfl))) (by rw [sum1]; omega)) (by rw [hfl]))) (by simp) (.inl rfl) (by walk_at "mine up") ?_
  · exact EvTN.ev (EvTN.eq (EvTN.call (by walk_at "mine fn") (.inl ⟨_, rfl⟩) (by walk_at "mine args") rfl rfl (hch d (htm d hd).2)) rfl)
  -- the price
  have s8 : ∀ x y : Int, CallSp W 74 (.ref 155) [.int x, .int y] (.int (price x y)) := fun x y => (sp_price hW x y).up (show 1 ≤ 74 by omega)
  refine Ex.assign (pv := .int (priceOf codes)) (FEv.N (EvTN.call (by walk_at "mine fn") (.inl ⟨_, rfl⟩) (EvL.cons (EvTN.ev EvTN.cint) (EvL.cons (EvTN.ev (EvTN.call (by walk_at "mine fn") (.inl ⟨_, rfl⟩) (EvL.cons (EvTN.ev (EvTN.eq (EvTN.compN (ks := List.range 4) (p := fun _ => true) (f := fun k => .int (price (codes.getD k 0 : Nat) ((turnOf codes).getD k 0 : Nat))) rfl (EvI.rng1 (n := 4) (by walk_at "mine fn") (EvL.cons (EvTN.ev EvTN.cint) EvL.nil rfl) (by omega)) (by simp) (fun C cl hcl k hk => EvTests.nil)
    (fun C cl hcl k hk _ => ?_) (fun k _ _ => rfl)) (show _ = PV.list (((List.range 4).map fun k => price (codes.getD k 0 : Nat) ((turnOf codes).getD k 0 : Nat)).map PV.int) by rw [filter_all, List.map_map]; rfl))) EvL.nil rfl) rfl rfl CallSp.sumInts)) EvL.nil rfl) rfl) rfl rfl CallSp.min)) (by simp) (.inl rfl) (by walk_at "mine up") ?_
  · have hk4 : k < 4 := List.mem_range.mp hk
    have k1 : k < codes.length := by omega
    have k2 : k < (turnOf codes).length := by omega
    have e1 : codes.getD k 0 = codes[k] := by rw [List.getD_eq_getElem?_getD, List.getElem?_eq_getElem k1]; rfl
    have e2 : (turnOf codes).getD k 0 = (turnOf codes)[k] := by rw [List.getD_eq_getElem?_getD, List.getElem?_eq_getElem k2]; rfl
    rw [e1, e2]
    have g1 : (natPV codes)[((k : Nat) : Int).toNat]? = some (.int (codes[k] : Nat)) := by simp [natPV, k1]
    have g2 : (natPV (turnOf codes))[((k : Nat) : Int).toNat]? = some (.int ((turnOf codes)[k] : Nat)) := by simp [natPV, k2]
    exact EvTN.ev (EvTN.call (by walk_at "mine fn") (by exact (fnPrice.ok hW).callee) (EvL.cons (EvT.item (k := (k : Int)) (by walk_at "mine ev") (by walk_at "mine ev") (by omega) (by omega) g1 (fun _ _ => rfl)) (EvL.cons (EvT.item (k := (k : Int)) (by walk_at "mine ev") (by walk_at "mine ev") (by omega) (by omega) g2 (fun _ _ => rfl)) EvL.nil rfl) rfl) rfl rfl (s8 _ _))
  have s9 := (sp_lev hW (a := codes) (b := turnOf codes) (mc := 4) (by omega) (by omega)).up (show 2 ≤ 74 by omega)
  have s10 := (sp_lev hW (a := turnOf codes) (b := codes) (mc := 4) (by omega) (by omega)).up (show 2 ≤ 74 by omega)
  rw [hok.lev1] at s9
  rw [hok.lev2] at s10
  refine Ex.ifRet (b := false) (EvB.cast (EvB.cmp (a := .list (intPV [priceOf codes, priceOf codes])) (b := .list (intPV [priceOf codes, priceOf codes])) (EvTN.ev (EvTN.list (EvLN.cons (EvTN.call (by walk_at "mine fn") (by exact (fnLev.ok hW).callee) (EvL.cons (by walk_at "mine ev") (EvL.cons (by walk_at "mine ev") (EvL.cons (EvTN.ev EvTN.cint) EvL.nil rfl) rfl) rfl) rfl rfl s9) (EvLN.cons (EvTN.call (by walk_at "mine fn") (by exact (fnLev.ok hW).callee) (EvL.cons (by walk_at "mine ev") (EvL.cons (by walk_at "mine ev") (EvL.cons (EvTN.ev EvTN.cint) EvL.nil rfl) rfl) rfl) rfl rfl s10) EvLN.nil rfl) rfl) (by simp [intPV, sizeLine])))
    (EvTN.ev (EvTN.list (EvLN.cons (by walk_at "mine ev") (EvLN.cons (by walk_at "mine ev") EvLN.nil rfl) rfl) (by simp [intPV, sizeLine]))) Op2.neInts rfl) (by simp)) (fun h => (by cases h)) fun _ => ?_
  have fin := law_b hW hT (H := H) (ts := ts) (nums := numbersOf ts) (lk := likeOf codes) (L := L) (a := a) (cd := cd) hHl (by rw [hnum]; simp) hp20 hp4 hlkl (fun n hn => by
    rw [hnum] at hn
    obtain ⟨t, _, rfl⟩ := List.mem_map.mp hn
    exact wantNum_bits codes t) hwh
  exact Ex.weak fin (by repeat' (first | exact Ctx.Le.nil | refine Ctx.Le.cons rfl ?_)) (fun x hx => by cases hx)
end

/-! the law's call -/
section
variable {M : Model} {A : Around} {E : Value → Shared → Prop} {s : Shared}
/-- a frame for one parameter, a local name: a token is made -/
theorem newEnv1 {scope : Scope} {globals : Addr} {n : PySem.Str} {v : Value} {qual : PySem.Str} {func : Option Addr} {code : Value} {builtins : Addr} {Q : Env → Shared → Prop} (hk : scope.kind = .function) (hn : scope.names.lookup n = some .local)
    (hQ : ∀ env, env = newEnv scope s.heap.objs.size globals (cellsFrom (s.heap.objs.size + 1) scope.names []) qual func code none builtins →
      ∀ s', InCallC s env.locals (bindL env.kindOf [(n, v)] fun _ => none) env.cells (bindC env.kindOf [(n, v)] fun _ => none) s' → 0 < s'.toks → Q env s') :
    wpAny M A (newFunctionEnv scope globals [] [(n, v)] qual func code none builtins) Q E s := by
  simp only [newFunctionEnv, Option.isSome_none, Bool.false_eq_true, if_false]
  refine wpAny_bind (wpAny_alloc (wpAny_bind (wpAny_layCells _ (fun name kind cells => by cases hkc : kind == NameKind.cell <;> simp) _ _ _ _ ?_)))
  have ok := cellsFrom_ok scope.names (s.heap.push { cls := .type "frame", data := .dict #[] }) (s.heap.objs.size + 1) [] ⟨fun _ _ hm => (nomatch hm), List.Pairwise.nil⟩ (by rw [Heap.size_push]; exact Nat.le_refl _)
  rw [Heap.size_push] at ok
  rw [show ({ s with heap := s.heap.push { cls := .type "frame", data := .dict #[] } } : Shared).heap.objs.size = s.heap.objs.size + 1 from Heap.size_push ..]
  have hl : (newEnv scope s.heap.objs.size globals (cellsFrom (s.heap.objs.size + 1) scope.names []) qual func code none builtins).kindOf n = some .local := hn
  have hns : (pushCells (s.heap.push { cls := .type "frame", data := .dict #[] }) scope.names).Ns s.heap.objs.size (fun _ => none) := (Heap.Ns.new s.heap (.type "frame")).keeps (pushCells_keeps _ _)
  have hsk : (newEnv scope s.heap.objs.size globals (cellsFrom (s.heap.objs.size + 1) scope.names []) qual func code none builtins).scope.kind = .function := hk
  have hp : ((newEnv scope s.heap.objs.size globals (cellsFrom (s.heap.objs.size + 1) scope.names []) qual func code none builtins).scope.kind == .class || ((newEnv scope s.heap.objs.size globals (cellsFrom (s.heap.objs.size + 1) scope.names []) qual func code none builtins).scope.kind == .module && (newEnv scope s.heap.objs.size globals (cellsFrom (s.heap.objs.size + 1) scope.names []) qual func code none builtins).locals != (newEnv scope s.heap.objs.size globals (cellsFrom (s.heap.objs.size + 1) scope.names []) qual func code none builtins).globals)) = false := by rw [hsk]; rfl
  simp only [List.forIn_cons, List.forIn_nil]
  refine wpAny_bind (wpAny_bind (wpAny_bind (wpAny_storeName_local (env := newEnv scope s.heap.objs.size globals (cellsFrom (s.heap.objs.size + 1) scope.names []) qual func code none builtins) hl hns (fun h' hn' hs' => wpAny_pure (wpAny_pure (wpAny_pure (hQ _ rfl _ ⟨⟨⟨h', _, rfl⟩, ?_, fun b o e => ?_, Nat.le_refl _⟩, fun k c hc => ?_, ok.apart, fun k c hm => (ok.empty k c hm).2⟩ (Nat.succ_pos _))))) hp)))
  · unfold bindL bindL
    rw [if_pos hl]; exact hn'
  · exact hs'.extBut b o (Nat.ne_of_lt (Heap.lt_size e)) (pushCells_keeps _ _ b o (Heap.get?_push_of_some _ e))
  · unfold bindC bindC
    rw [if_pos hl]
    exact ((ok.empty k c (PySem.mem_of_lookup hc)).1).sameBut hs' (Nat.ne_of_gt (ok.empty k c (PySem.mem_of_lookup hc)).2)
end

theorem law_call {W : Wd} (hW : WOk W) (hT : TOk W) {script : List Int} (hs : script.length ≤ 63) {g : Heap} {A : Around} {s₁ : Shared} {a : Addr} {vs : List Value} {R : Result → Shared → Prop} (hR : Rm 75 A) (hG : Glob W g) (hle : HLe g s₁.heap) (hti : W.TI s₁.heap)
    (hl : s₁.heap.PlainList a vs.toArray) (hI : IntsAre vs script) (hQ : ∀ s', Ext0 W s₁ s' → R (.ok (.ret (.bool true))) s') : codeAny W.M A (.call (.ref 160) ⟨[.ref a], []⟩) R s₁ := by
  have hf := fnLaw.ok hW
  obtain ⟨o, ho, hod⟩ := hf.loc
  refine codeAny_call_function hR.depth (hle _ _ (hG.inK _ _ ho)) hod hf.co hf.gen hf.body ((codeRec_of hG.inK hf.code).keeps hle) ?_
  have hb : bindArgs fnLaw.fd ⟨[.ref a], []⟩ = pure [(("script" : PySem.Str), Value.ref a)] := rfl
  rw [hb, hf.clo]
  refine wpAny_pure (newEnv1 hf.kind rfl fun env he s' hI' ht => ?_)
  subst he
  refine ⟨(hG.top.nolimit.keeps hle).keeps hI'.toInCall.keep, codeAny_func ?_⟩
  have hB : Base W g (fun _ => none) { s₁ with toks := s'.toks } := ⟨hG, hle, hti, ⟨ht, fun t x e => by cases e⟩⟩
  have hv : VReps (fun _ => True) (fun _ => none) s₁.heap [.ref a] [.list (intPV script)] := .cons (.list trivial hl (Mine.IntsAre.vreps hI)) .nil
  obtain ⟨h', tk, e1, e2⟩ := hI'.done
  have F0 := Fm.entry (names := ["script"]) hf hB hv (by decide) rfl (fun x hx => by simp only [List.mem_singleton] at hx; subst hx; exact .inl rfl) (fun x hx => cellsFrom_some _ _ _ x hx)
    (s₁ := s') ⟨⟨⟨h', tk, by rw [e1]⟩, hI'.toInCall.ns, hI'.toInCall.keep, hI'.toInCall.fresh⟩, hI'.cell, hI'.apart, hI'.above⟩ (Nat.le_refl _)
  have hlaw := law_a hW hT hs (L := s₁.heap.objs.size) (a := 160) (cd := fnLaw.fd.code) (lawOk (codesOf_length _) (codesOf_ok (heapsOf script)))
  refine wpAny_mono (hlaw _ g _ _ _ (A.deeper _) s' _ (hR.deeper _) F0) (fun f s'' q => ?_) fun _ _ q => q
  obtain ⟨l', st, q⟩ := q
  have ext := st.ext F0.ext fun b hb => F0.mutFresh hb
  cases f with
  | next =>
    obtain ⟨Γ', O', ω', hn, _⟩ := q
    exact hn.elim
  | ret v =>
    obtain ⟨pv, hpv, q⟩ := q
    subst hpv
    cases q with
    | bool b =>
      obtain ⟨h2, t2, e3⟩ := ext.same
      exact hQ s'' ⟨⟨h2, t2, e3⟩, ext.keep, ext.ti⟩
  | brk => exact q.elim
  | cont => exact q.elim

/-! the real world -/
noncomputable def noSt (P : Addr) (h : Heap) : Prop := ∀ vs, h.get? P = some (tabObj vs) → ∀ q t, vs[1]? ≠ some (.str q t)
theorem TabSt.noSt {P : Addr} {pos : Pos} {qual : PySem.Str} {h : Heap} (x : TabSt P pos qual h) : noSt P h := fun vs e q t => by
  obtain ⟨ps, e2, hp⟩ := x
  rw [e] at e2
  have : vs = ps := by cases e2; rfl
  subst this
  rcases hp with rfl | ⟨c', rfl, _⟩
  · simp
  · simp [rawInt]
theorem TabSt.le {P : Addr} {pos : Pos} {qual : PySem.Str} {h h' : Heap} (x : TabSt P pos qual h) (k : HLe h h') : TabSt P pos qual h' := by
  obtain ⟨ps, e2, hp⟩ := x
  refine ⟨ps, k _ _ e2, hp.imp id fun ⟨c', e, r⟩ => ⟨c', e, r.keeps k⟩⟩
theorem TabSt.but {P : Addr} {pos : Pos} {qual : PySem.Str} {h h' : Heap} {a : Addr} (x : TabSt P pos qual h) (hP : a ≠ P) (hc : ∀ o, h.get? a = some o → ∀ vs, o.data = .fields vs → ∀ q t, vs[1]? ≠ some (.str q t)) (k : Heap.ExtBut a h h') : TabSt P pos qual h' := by
  obtain ⟨ps, e2, hp⟩ := x
  refine ⟨ps, k _ _ (Ne.symm hP) e2, hp.imp id fun ⟨c', e, r⟩ => ⟨c', e, ?_⟩⟩
  obtain ⟨c, o, vs, t, q1, q2, q3, q4⟩ := r
  exact ⟨c, o, vs, t, q1, k _ _ (fun q => by subst q; exact hc o q2 vs q3 _ _ q4) q2, q3, q4⟩
theorem notCode_ne {h : Heap} {a P : Addr} {o : Obj} {ps : Array Value} (ho : h.get? a = some o) (hn : NotCode o) (hP : h.get? P = some (tabObj ps)) : a ≠ P := fun q => by
  subst q
  rw [ho] at hP; cases hP
  rcases hn with h | ⟨h, _⟩
  · exact h _ rfl
  · exact h rfl
theorem notCode_str {h : Heap} {a : Addr} {o : Obj} (ho : h.get? a = some o) (hn : NotCode o) : ∀ o, h.get? a = some o → ∀ vs, o.data = .fields vs → ∀ q t, vs[1]? ≠ some (.str q t) := fun o' ho' vs hd q t => by
  rw [ho] at ho'; cases ho'
  rcases hn with h | ⟨_, vs', hd', h⟩
  · exact (h vs hd).elim
  · rw [hd] at hd'; cases hd'; exact h q t

noncomputable def theW (prog : Program) (w : World) (loose : List PySem.Str) (mean : ExcName → Option Value) (mg mb : PySem.Str → Option Value) : Wd where
  prog := prog
  w := w
  K := pre.heap_1 w.params
  loose := loose
  mean := mean
  mg := mg
  mb := mb
  tabs := [51, 44]
  TI := fun h => TabSt 51 d2iIn.pos "_digits2int.<locals>.inner" h ∧ TabSt 44 i2dIn.pos "_int2digits.<locals>.inner" h
  ti_le := fun k x => ⟨x.1.le k, x.2.le k⟩
  ti_but := fun ho hn k x => by
    obtain ⟨p1, e1, _⟩ := id x.1
    obtain ⟨p2, e2, _⟩ := id x.2
    exact ⟨x.1.but (notCode_ne ho hn e1) (notCode_str ho hn) k, x.2.but (notCode_ne ho hn e2) (notCode_str ho hn) k⟩
  ti_tab := fun x P hP => by
    simp only [List.mem_cons, List.not_mem_nil, or_false] at hP
    rcases hP with rfl | rfl
    · obtain ⟨ps, e, _⟩ := x.1; exact ⟨ps, e⟩
    · obtain ⟨ps, e, _⟩ := x.2; exact ⟨ps, e⟩
  GI := fun g => CodeHd g 55 51 ∧ CodeHd g 48 44

section
variable {prog : Program} {w : World} {loose : List PySem.Str} {mean : ExcName → Option Value} {mg mb : PySem.Str → Option Value}
theorem theW_T : TOk (theW prog w loose mean mg mb) where
  d2i := ⟨by simp [theW], fun h x => x.1, fun h h' x k y => ⟨y, by
      obtain ⟨p1, e1, _⟩ := id x.1
      exact x.2.but (by decide) (fun o ho vs hd q t => by rw [e1] at ho; cases ho; cases hd; exact x.1.noSt _ e1 q t) k⟩, fun g hg => hg.gi.1, fun h x P hP vs e q t => by
      have hP' : P ∈ ([51, 44] : List Addr) := hP
      simp only [List.mem_cons, List.not_mem_nil, or_false] at hP'
      rcases hP' with rfl | rfl
      · exact x.1.noSt vs e q t
      · exact x.2.noSt vs e q t⟩
  i2d := ⟨by simp [theW], fun h x => x.2, fun h h' x k y => ⟨by
      obtain ⟨p1, e1, _⟩ := id x.2
      exact x.1.but (by decide) (fun o ho vs hd q t => by rw [e1] at ho; cases ho; cases hd; exact x.2.noSt _ e1 q t) k, y⟩, fun g hg => hg.gi.2, fun h x P hP vs e q t => by
      have hP' : P ∈ ([51, 44] : List Addr) := hP
      simp only [List.mem_cons, List.not_mem_nil, or_false] at hP'
      rcases hP' with rfl | rfl
      · exact x.1.noSt vs e q t
      · exact x.2.noSt vs e q t⟩
  gi := fun h h' k x => ⟨x.1.keeps k, x.2.keeps k⟩
theorem theW_W {h : Heap} (X : (pre.heap_1 w.params).In h) (T : Top topProg loose mean mg mb h) : WOk (theW prog w loose mean mg mb) where
  K := rfl
  g := fun x v e => mg_of X T.g e
  b := fun x v e hb hn => ⟨mg_none_of X T.g e, (T.builtins x hn).trans hb⟩
end
theorem plain_of_well {P : Params} {h : Heap} {a : Addr} {xs : List WData} {vs : List Value} (x : Well P h (.ref a) (.list xs)) (hl : h.IsList a vs.toArray) : h.PlainList a vs.toArray := by
  cases x with
  | list e _ =>
    obtain ⟨o, ho, hc, n, hd⟩ := hl
    rw [e] at ho; cases ho
    cases hd
    exact ⟨_, e⟩

end Mine

namespace Mine
theorem top.te11539556534233449701 : True := trivial
theorem top.tw9437893007894698314 : True := trivial
theorem top.tw11281993941545411046 : True := trivial
theorem top.tw6205528325628176237 : True := trivial
theorem top.tw15388803197594178083 : True := trivial
theorem top.tw11835120745114892318 : True := trivial
theorem top.tw9068506458530023791 : True := trivial
theorem top.tw105208000716104510 : True := trivial
theorem top.tw1284575025550258836 : True := trivial
theorem top.tw4872296631132183273 : True := trivial
theorem top.tw705360758644809490 : True := trivial
theorem top.tw10090393231696489298 : True := trivial
theorem top.tw10567129059001840431 : True := trivial
theorem top.tw14987219478266130788 : True := trivial
theorem top.tw575894324575664597 : True := trivial
theorem top.tw13369591340354186047 : True := trivial
theorem top.tw7557910624720293991 : True := trivial
theorem top.tw2732273902793177162 : True := trivial
theorem top.tw2924597203103170677 : True := trivial
theorem top.tw4655869559712951663 : True := trivial
theorem top.tw2514443458684651071 : True := trivial
theorem top.tw2218668502564051296 : True := trivial
theorem top.tw10005945817407372193 : True := trivial
theorem top.tw5667650583090716360 : True := trivial
theorem top.tw3730354652608582461 : True := trivial
theorem top.tw517144808224063464 : True := trivial
theorem top.tw8813761850579938390 : True := trivial
theorem top.tw1736530178072539846 : True := trivial
theorem top.tw72247145696351765 : True := trivial
theorem top.tw1047907039808853306 : True := trivial
theorem top.tw3969286963782609292 : True := trivial
theorem top.tw18186074749648716422 : True := trivial
theorem top.tw16204670001084760307 : True := trivial
theorem top.tw13303987763403120937 : True := trivial
theorem top.tw9378254376102152143 : True := trivial
set_option Elab.async true in
set_option maxRecDepth 100000 in
set_option maxHeartbeats 8000000 in
theorem top : PySem.Challenge.rw_tc0020_01.Holds := by
  w_on
  o_law
  o_head (kmHook pre.heap_1 asL asE [51, 44])
  (case hw => w_witness2)
  k_fill
  intro w s₀ s₁ mg mb G Y fa o pm cd doc dV kV ho hd hcd hD hmg hg args vals as hpre hlay hrd hwl hlo
  have KX := km_in_of Y
  km_tabs Y
  have X := (Ground.X G).1
  have V := (Ground.X G).2
  refine Ground.open G ?_
  intro T B D TE TW
  try (refine guard_noD D (by decide +kernel) ?_; clear D)
  km_lay T hmg ho hd cd
  wrow_args hpre hlay hrd hwl hlo
  first | refine callC_kw (enter_call ?_) | refine enter_call ?_
  kn_posts
  rename_i script hs' hlay0' hL' hr' hl2' as1 as2 l vs as3 hIs ra w1 r0 hI hr2 hc1 hc2
  have h160 : mg "law" = some (.ref 160) := mg_of KX T.g rfl
  have hfa : fa = 160 := by
    have e : some (Value.ref fa) = some (Value.ref 160) := hmg.symm.trans h160
    cases e; rfl
  subst hfa
  have C' := ghost_code hT9
  have X' := ghost_K hT9 KX (by kernel_rfl)
  have T' := ghost_top hT9 T
  have hlen : script.length ≤ 63 := by omega
  refine Mine.law_call (W := Mine.theW PySem.Challenge.rw_tc0020_01.row.prog w _ _ mg mb) (Mine.theW_W X' T') Mine.theW_T hlen (g := ghostOf s₁.heap [(55, 51), (48, 44)]) (a := l) (vs := vs) ⟨rfl, by decide, by decide⟩ ⟨X', T', fun P hP => hideAll_none _ hP, C'.1, C'.2.1⟩ (fun b o e => of_hideAll _ e) ⟨⟨#[], hT8 51 (by simp), .inl rfl⟩, ⟨#[], hT8 44 (by simp), .inl rfl⟩⟩ (Mine.plain_of_well w1 hIs) hI fun s' x => ?_
  refine ⟨⟨.inl ⟨.bool true, .bool true, [], rfl, fun _ => rfl, .bool true, ?_, ?_⟩, ?_, ?_, ?_⟩, ?_⟩
  · exact postW_of (by wrow_shape) (by wtm_val) rfl
  · exact unshared_nil
  · intro b o e
    refine x.keep b o (fun hm => ?_) (of_hideAll _ e)
    rw [show (ghostOf s₁.heap [(55, 51), (48, 44)]).get? b = none from hideAll_none _ hm] at e
    cases e
  · obtain ⟨h', tk, e⟩ := x.same
    rw [e]
  · obtain ⟨h', tk, e⟩ := x.same
    rw [e]; exact hg
  · obtain ⟨p1, e1, _⟩ := x.ti.1
    obtain ⟨p2, e2, _⟩ := x.ti.2
    exact ⟨⟨p1, e1⟩, ⟨p2, e2⟩, trivial⟩
end Mine
theorem PySem.Challenge.cw_tc0020_01_holds : PySem.Challenge.rw_tc0020_01.Holds :=
  Mine.top
